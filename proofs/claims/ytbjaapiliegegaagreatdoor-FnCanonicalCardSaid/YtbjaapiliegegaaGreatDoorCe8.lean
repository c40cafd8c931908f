/- The reckoner's built slices, maps, ranges; and all its operations in one theorem. -/
import Derived.Test.YtbjaapiliegegaaGreatDoorCe7
namespace Go.Proofs.YtbjaapiliegegaaGreatDoor.Ce
open Go Go.RowKit

section
variable {N : Nat} {P : Program} {w0 : World} {h : Heap} {w : World}

theorem buildSlice_ok (hF : Full N w0 h w) (hN : N = w0.heap.size) {t : TypeId} {len : Nat} {parts : List (Nat × AV)} {v : AV} {h' : Heap} {Parts : Array (Nat × Value)} (e : abuildSlice P h t len parts = some (v, h')) (hp : RPs N parts Parts.toList) :
    ∃ V w', (Instr.buildSlice t len Parts).run P w = .ok V w' ∧ RV N v V ∧ Full N w0 h' w' := by
  unfold abuildSlice at e
  split at e
  · rename_i el hu
    split at e
    · rename_i i hi
      split at e
      · rename_i hb
        obtain ⟨hs, hl⟩ := hb
        split at e
        · rename_i z hz
          split at e
          · rename_i zv hzv
            split at e
            · rename_i cs hcs
              cases e
              have hzr : RVs N (List.replicate len zv) (Array.replicate len z).toList := by simpa using RVs_replicate (ofVal_RV hzv) len
              obtain ⟨R, hR, hrr⟩ := fill_ok hcs hzr hp
              obtain ⟨h1, h2⟩ := newRow_ok (P := P) hF hN (o := .cells cs el 0 0) (C := R) (e := el) ⟨_, rfl, hrr⟩
              refine ⟨.slice (some ⟨bt N h.n, 0, none⟩) len len, _, ?_, rfl, h2⟩
              have h20 : (2 : Nat) ^ 20 = 1048576 := rfl
              have h24 : (2 : Nat) ^ 24 = 16777216 := rfl
              have hbig : ¬ len * i.size > 2 ^ 24 := by rw [hs]; omega
              simp only [hs, Nat.mul_one] at hR
              simp only [Instr.buildSlice, Sem.run_bind, run_underlying hu, size_run hi, Result.andThen_ok]
              rw [if_neg hbig]
              simp only [hs, Nat.mul_one]
              by_cases h0 : len = 0
              · subst h0
                have e0 : ∀ f : Nat → Value, (Array.range 0).map f = #[] := fun f => Array.eq_empty_of_size_eq_zero (by simp)
                have hR' : Instr.fill (fun i => some (i, 1)) #[] Parts.toList = some R := hR
                simp [e0, hR', h1]
              · simp only [if_neg h0, Sem.run_bind, zeroValue, info_run hi, hz, Result.andThen_ok, Sem.run_pure, zeros_map (ofVal_agg hzv), hR, h1]
            · cases e
          · cases e
        · cases e
      · cases e
    · cases e
  · cases e

theorem strMap_ok {t e : TypeId} (h : strMap P t = some e) : ∃ k, P.underlying t = some (.map k e) ∧ P.underlying k = some .string := by
  unfold strMap at h
  split at h
  · rename_i k el hu
    split at h
    · rename_i hk; cases h; exact ⟨k, hu, hk⟩
    · cases h
  · cases h

theorem checkKey_str {k : TypeId} (hk : P.underlying k = some .string) (b : Bool) (s : ByteArray) (w : World) : (Instr.checkKey b 10000 k (.string s)).run P w = .ok () w := by
  have : ∀ n, (Instr.checkKey b (n + 1) k (.string s)).run P w = .ok () w := fun n => by simp [Instr.checkKey, run_underlying hk]
  exact this 9999

def RF1 (N : Nat) : Option (Nat × AV) → Option (Nat × Value) → Prop
  | none, X => X = none
  | some (i, v), X => ∃ V, X = some (i, V) ∧ RV N v V

theorem findNow_ok {s : List UInt8} : ∀ {es : List (AV × AV × Nat)} {Es : List MapEntry} {i : Nat} {r : Option (Nat × AV)}, findStr s es i = some r → RE N es Es →
    ∃ R, Instr.findNow .string (.string ⟨s.toArray⟩) Es i = some R ∧ RF1 N r R
  | [], Es, i, r, e, h => by
    simp only [findStr] at e
    cases e
    rw [show Es = [] from h]
    exact ⟨none, rfl, rfl⟩
  | (k, v, b) :: es, Es, i, r, e, h => by
    obtain ⟨E, Es', rfl, hk, hv, hb, hr⟩ := h
    simp only [findStr] at e
    split at e
    · rename_i q
      rw [show ({ key := E.key, val := E.val, born := E.born } : MapEntry) = E from rfl] at *
      have hkey : E.key = .string ⟨q.toArray⟩ := hk
      simp only [Instr.findNow, hkey, Instr.sameNow, bytes_beq]
      split at e
      · rename_i hq
        cases e
        simp only [hq]
        exact ⟨_, rfl, _, rfl, hv⟩
      · rename_i hq
        have hq' : (s == q) = false := by simpa using hq
        simp only [hq']
        exact findNow_ok e hr
    · cases e

theorem RE_get : ∀ {es : List (AV × AV × Nat)} {Es : List MapEntry}, RE N es Es → ∀ {i : Nat} {k v : AV} {b : Nat}, es[i]? = some (k, v, b) → ∃ E, Es[i]? = some E ∧ RV N k E.key ∧ RV N v E.val ∧ E.born = b
  | [], _, _, i, k, v, b, e => by simp at e
  | (k', v', b') :: es, _, ⟨E, Es', rfl, h1, h2, h3, hr⟩, 0, k, v, b, e => by
    simp at e
    obtain ⟨rfl, rfl, rfl⟩ := e
    exact ⟨E, by simp, h1, h2, h3⟩
  | _ :: es, _, ⟨E, Es', rfl, h1, h2, h3, hr⟩, i + 1, k, v, b, e => by simpa using RE_get hr (i := i) (by simpa using e)

theorem RE_append : ∀ {es fs : List (AV × AV × Nat)} {Es Fs : List MapEntry}, RE N es Es → RE N fs Fs → RE N (es ++ fs) (Es ++ Fs)
  | [], _, Es, Fs, h, hf => by rw [show Es = [] from h]; exact hf
  | (_, _, _) :: _, _, _, _, ⟨E, Es', rfl, h1, h2, h3, hr⟩, hf => ⟨E, _, rfl, h1, h2, h3, RE_append hr hf⟩

theorem RE_erase : ∀ {es : List (AV × AV × Nat)} {Es : List MapEntry} (i : Nat), RE N es Es → RE N (es.eraseIdx i) (Es.eraseIdx i)
  | [], Es, i, h => by rw [show Es = [] from h]; rfl
  | (_, _, _) :: _, _, 0, ⟨E, Es', rfl, h1, h2, h3, hr⟩ => by simpa using hr
  | (_, _, _) :: _, _, i + 1, ⟨E, Es', rfl, h1, h2, h3, hr⟩ => by
    simp only [List.eraseIdx_cons_succ]
    exact ⟨E, _, rfl, h1, h2, h3, RE_erase i hr⟩

theorem RE_set : ∀ {es : List (AV × AV × Nat)} {Es : List MapEntry} (i : Nat) {k v : AV} {b : Nat} {E : MapEntry}, RE N es Es → RV N k E.key → RV N v E.val → E.born = b → RE N (es.set i (k, v, b)) (Es.set i E)
  | [], Es, i, _, _, _, _, h, _, _, _ => by rw [show Es = [] from h]; rfl
  | (_, _, _) :: _, _, 0, _, _, _, F, ⟨E, Es', rfl, h1, h2, h3, hr⟩, hk, hv, hb => ⟨F, Es', rfl, hk, hv, hb, hr⟩
  | (_, _, _) :: _, _, i + 1, _, _, _, F, ⟨E, Es', rfl, h1, h2, h3, hr⟩, hk, hv, hb => ⟨E, _, rfl, h1, h2, h3, RE_set i hr hk hv hb⟩

theorem getMap (hD : Den N h w) {b : Nat} {es : List (AV × AV × Nat)} {clock : Nat} (e : h.at b = some (.map es clock)) :
    ∃ E, w.heap[bt N b]? = some (.map E clock) ∧ RE N es E.toList ∧ (getObj (bt N b)).run P w = .ok (.map E clock) w := by
  obtain ⟨_, O, hO, E, rfl, hE⟩ := hD b _ e
  exact ⟨E, hO, hE, by simp [getObj, Sem.run, hO]⟩

theorem lookup_ok (hD : Den N h w) {t : TypeId} {x ix v : AV} {X I : Value} {ok : Bool} (e : alookup P h t x ix ok = some v) (hx : RV N x X) (hi : RV N ix I) :
    ∃ V, (Instr.lookup t X I ok).run P w = .ok V w ∧ RV N v V := by
  have two : ∀ {a : AV} {A : Value} {b : Bool}, RV N a A → RV N (.tuple [a, .bool b]) (.tuple #[A, .bool b]) := fun h => ⟨_, rfl, _, _, rfl, h, _, _, rfl, rfl, rfl⟩
  unfold alookup at e
  split at e
  · rename_i el r s hm
    obtain ⟨k, hu, hk⟩ := strMap_ok hm
    rw [show X = _ from hx, show I = _ from hi]
    have fin : ∀ (E : Array MapEntry) (es : List (AV × AV × Nat)), RE N es E.toList → (match findStr s es 0 with
          | none => none
          | some (some (_, v)) => some (if ok then .tuple [v, .bool true] else v)
          | some none => match azero P el with
            | some z => some (if ok then .tuple [z, .bool false] else z)
            | none => none) = some v →
        (∃ V, RV N v V ∧ ((∃ i U, Instr.findNow .string (.string ⟨s.toArray⟩) E.toList 0 = some (some (i, U)) ∧ V = if ok then .tuple #[U, .bool true] else U) ∨
          (∃ Z, Instr.findNow .string (.string ⟨s.toArray⟩) E.toList 0 = some none ∧ (zeroValue el).run P w = .ok Z w ∧ V = if ok then .tuple #[Z, .bool false] else Z))) := by
      intro E es hE he
      split at he
      · cases he
      · rename_i i u hf
        obtain ⟨R, hR, U, rfl, hU⟩ := findNow_ok hf hE
        simp only [Option.some.injEq] at he
        subst he
        refine ⟨if ok then .tuple #[U, .bool true] else U, ?_, .inl ⟨i, U, hR, rfl⟩⟩
        cases ok
        · exact hU
        · exact two hU
      · rename_i hf
        obtain ⟨R, hR, rfl⟩ := findNow_ok hf hE
        split at he
        · rename_i z hz
          obtain ⟨Z, hZ, hr, _⟩ := azero_run (N := N) hz w
          simp only [Option.some.injEq] at he
          subst he
          refine ⟨if ok then .tuple #[Z, .bool false] else Z, ?_, .inr ⟨Z, hR, hZ, rfl⟩⟩
          cases ok
          · exact hr
          · exact two hr
        · cases he
    cases r with
    | none =>
      simp only at e
      obtain ⟨V, hV, hc⟩ := fin #[] [] rfl e
      refine ⟨V, ?_, hV⟩
      rcases hc with ⟨i, U, h1, rfl⟩ | ⟨Z, h1, h2, rfl⟩
      · simp at h1
        cases h1
      · simp only at h1
        have h1' : Instr.findNow .string (.string ⟨s.toArray⟩) [] 0 = some none := h1
        cases ok <;> simp [Instr.lookup, run_underlying hu, checkKey_str hk, Instr.findKey, run_underlying hk, h1', h2]
    | some b =>
      simp only at e
      cases ha : h.at b with
      | none => rw [ha] at e; cases e
      | some q =>
        rw [ha] at e
        cases q <;> simp only at e <;> first | (cases e; done) | skip
        rename_i es clock
        obtain ⟨E, hO, hE, hg⟩ := getMap (P := P) hD ha
        obtain ⟨V, hV, hc⟩ := fin E es hE e
        refine ⟨V, ?_, hV⟩
        rcases hc with ⟨i, U, h1, rfl⟩ | ⟨Z, h1, h2, rfl⟩
        · cases ok <;> simp [Instr.lookup, run_underlying hu, checkKey_str hk, Instr.findKey, run_underlying hk, h1, hg]
        · cases ok <;> simp [Instr.lookup, run_underlying hu, checkKey_str hk, Instr.findKey, run_underlying hk, h1, h2, hg]
  · cases e

theorem setMap_ok (hF : Full N w0 h w) (hn0 : n0 ≤ N) {b : Nat} (hb : n0 ≤ b) {O o' : AO} {Q O' : Obj} (ha : h.at b = some O) (hQ : w.heap[bt N b]? = some Q) (hc : ∀ c e f, Q ≠ .cells c e f) (hR : RO N o' O') :
    ∃ w', (setObj (bt N b) O').run P w = .ok () w' ∧ Full N w0 (h.put b o') w' := by
  obtain ⟨hlt, _⟩ := hF.den b _ ha
  have hlt' : bt N b < w.heap.size := (Array.getElem?_eq_some_iff.1 hQ).1
  refine ⟨{ w with heap := w.heap.setIfInBounds (bt N b) O' }, ?_, hF.turn hn0 hb hlt (O := O') ?_ hR ?_ ?_ rfl rfl rfl⟩
  · simp only [setObj, Sem.run, hQ]
  · simp [hlt']
  · simp
  · intro k hk
    simp [Array.getElem?_setIfInBounds_ne (Ne.symm hk)]

theorem update_ok (hF : Full N w0 h w) (hn0 : n0 ≤ N) {t : TypeId} {m k v : AV} {M K V : Value} {h' : Heap} (e : aupdate P h t m k v = some h') (hm : RV N m M) (hk : RV N k K) (hv : RV N v V) :
    ∃ w', (Instr.mapUpdate t M K V).run P w = .ok () w' ∧ Full N w0 h' w' := by
  unfold aupdate at e
  split at e
  · rename_i el b s hmt
    obtain ⟨kt, hu, hkt⟩ := strMap_ok hmt
    rw [show M = _ from hm, show K = _ from hk]
    split at e
    · cases e
    rename_i hb
    cases ha : h.at b with
    | none => rw [ha] at e; cases e
    | some q =>
      rw [ha] at e
      cases q <;> simp only at e <;> first | (cases e; done) | skip
      rename_i es clock
      obtain ⟨E, hO, hE, hg⟩ := getMap (P := P) hF.den ha
      split at e
      · rename_i hf
        cases e
        obtain ⟨R, hR, rfl⟩ := findNow_ok hf hE
        obtain ⟨w', h1, h2⟩ := setMap_ok (P := P) hF hn0 (by omega) ha hO (by intro c e f hq; cases hq) (o' := .map (es ++ [(.str s, v, clock)]) (clock + 1)) (O' := .map (E.push { key := .string ⟨s.toArray⟩, val := V, born := clock }) (clock + 1))
          ⟨_, rfl, by simpa using RE_append hE (show RE N [(AV.str s, v, clock)] [({ key := .string ⟨s.toArray⟩, val := V, born := clock } : MapEntry)] from ⟨_, _, rfl, rfl, hv, rfl, rfl⟩)⟩
        exact ⟨w', by simp [Instr.mapUpdate, run_underlying hu, hg, checkKey_str hkt, Instr.findKey, run_underlying hkt, hR, h1], h2⟩
      · cases e
      · cases e
  · cases e

theorem delete_ok (hF : Full N w0 h w) (hn0 : n0 ≤ N) {ts : Array TypeId} {t ty : TypeId} {m k : AV} {M K : Value} {h' : Heap} (ht : ts[0]? = some t) (e : adelete P h t m k = some h') (hm : RV N m M) (hk : RV N k K) :
    ∃ w', (Builtin.delete_ ts ty #[M, K]).run P w = .ok undef w' ∧ Full N w0 h' w' := by
  unfold adelete at e
  split at e
  · rename_i el s hmt
    obtain ⟨kt, hu, hkt⟩ := strMap_ok hmt
    rw [show M = _ from hm, show K = _ from hk]
    cases e
    exact ⟨w, by simp [Builtin.delete_, ht, run_underlying hu, checkKey_str hkt, undef], hF⟩
  · rename_i el b s hmt
    obtain ⟨kt, hu, hkt⟩ := strMap_ok hmt
    rw [show M = _ from hm, show K = _ from hk]
    split at e
    · cases e
    rename_i hb
    cases ha : h.at b with
    | none => rw [ha] at e; cases e
    | some q =>
      rw [ha] at e
      cases q <;> simp only at e <;> first | (cases e; done) | skip
      rename_i es clock
      obtain ⟨E, hO, hE, hg⟩ := getMap (P := P) hF.den ha
      split at e
      · rename_i hf
        cases e
        obtain ⟨R, hR, rfl⟩ := findNow_ok hf hE
        obtain ⟨w', h1, h2⟩ := setMap_ok (P := P) hF hn0 (by omega) ha hO (by intro c e f hq; cases hq) (o' := .map es clock) (O' := .map E clock) ⟨_, rfl, hE⟩
        exact ⟨w', by simp [Builtin.delete_, ht, run_underlying hu, hg, checkKey_str hkt, Instr.findKey, run_underlying hkt, hR, h1, undef], h2⟩
      · rename_i i u hf
        cases e
        obtain ⟨R, hR, U, rfl, _⟩ := findNow_ok hf hE
        obtain ⟨w', h1, h2⟩ := setMap_ok (P := P) hF hn0 (by omega) ha hO (by intro c e f hq; cases hq) (o' := .map (es.eraseIdx i) clock) (O' := .map (E.eraseIdxIfInBounds i) clock) ⟨_, rfl, by simpa using RE_erase i hE⟩
        exact ⟨w', by simp [Builtin.delete_, ht, run_underlying hu, hg, checkKey_str hkt, Instr.findKey, run_underlying hkt, hR, h1, undef], h2⟩
      · cases e
  · cases e

theorem makeMap_ok (hF : Full N w0 h w) (hN : N = w0.heap.size) : ∃ w', (newObj (.map #[] 0)).run P w = .ok (bt N h.n) w' ∧ Full N w0 (h.new (.map [] 0)) w' := by
  obtain ⟨h1, h2⟩ := hF.new hN (o := .map [] 0) (O := .map #[] 0) ⟨#[], rfl, rfl⟩
  exact ⟨_, by rw [h2]; rfl, h1⟩

theorem range_ok (hF : Full N w0 h w) (hN : N = w0.heap.size) {t : TypeId} {x v : AV} {X : Value} {h' : Heap} (e : arange P h t x = some (v, h')) (hx : RV N x X) :
    ∃ V w', (Instr.range t X).run P w = .ok V w' ∧ RV N v V ∧ Full N w0 h' w' := by
  unfold arange at e
  split at e
  · rename_i k el hu
    rw [show X = _ from hx]
    cases e
    obtain ⟨h1, h2⟩ := hF.new hN (o := .iter none 0 [] 0) (O := .mapIter none 0 #[] 0) rfl
    refine ⟨.pointer (some ⟨bt N h.n, 0, none⟩), _, ?_, rfl, h1⟩
    rw [h2]
    simp [Instr.range, run_underlying hu]
  · rename_i k el m hu
    rw [show X = _ from hx]
    cases ha : h.at m with
    | none => rw [ha] at e; cases e
    | some q =>
      rw [ha] at e
      cases q <;> simp only at e <;> first | (cases e; done) | skip
      rename_i es clock
      cases e
      obtain ⟨E, hO, hE, hg⟩ := getMap (P := P) hF.den ha
      obtain ⟨h1, h2⟩ := hF.new hN (o := .iter (some m) clock [] clock) (O := .mapIter (some (bt N m)) clock #[] clock) rfl
      refine ⟨.pointer (some ⟨bt N h.n, 0, none⟩), _, ?_, rfl, h1⟩
      rw [h2]
      simp [Instr.range, run_underlying hu, hg]
  · cases e

theorem max_ok {x y v : AV} {X Y : Value} {ts : Array TypeId} {ty : TypeId} (e : amax x y = some v) (hx : RV N x X) (hy : RV N y Y) : ∃ V, (Builtin.max_ ts ty #[X, Y]).run P w = .ok V w ∧ RV N v V := by
  unfold amax at e
  split at e
  · rw [show X = _ from hx, show Y = _ from hy]
    cases e
    exact ⟨_, rfl, rfl⟩
  · cases e

theorem next_ok (hD : Den N h w) {x v : AV} {X : Value} {b : Bool} {ty : TypeId} (e : anext h x b = some v) (hx : RV N x X) : ∃ V, (Instr.next X b ty).run P w = .ok V w ∧ RV N v V := by
  have hf : RV N (.tuple [.bool false]) (.tuple #[.bool false]) := ⟨_, rfl, _, _, rfl, rfl, rfl⟩
  unfold anext at e
  split at e
  · rename_i r
    rw [show X = _ from hx]
    cases ha : h.at r with
    | none => rw [ha] at e; cases e
    | some q =>
      rw [ha] at e
      obtain ⟨_, O, hO, hR⟩ := hD r q ha
      cases q <;> simp only at e <;> first | (cases e; done) | skip
      rename_i m since seen st
      have hO' : O = .mapIter (m.map (bt N)) since seen.toArray st := hR
      subst hO'
      have hg : (getObj (bt N r)).run P w = .ok (.mapIter (m.map (bt N)) since seen.toArray st) w := by simp [getObj, Sem.run, hO]
      cases m with
      | none =>
        cases e
        exact ⟨.tuple #[.bool false], by simp [Instr.next, addr, hg], hf⟩
      | some m =>
        simp only at e
        cases ham : h.at m with
        | none => rw [ham] at e; cases e
        | some q2 =>
          rw [ham] at e
          cases q2 <;> first | (cases e; done) | skip
          rename_i es clock
          have hes : es = [] := by
            cases es with
            | nil => rfl
            | cons a l => cases e
          subst hes
          cases e
          obtain ⟨E, hO2, hE, hg2⟩ := getMap (P := P) hD ham
          have hE0 : E = #[] := by
            have : E.toList = [] := hE
            simpa using this
          subst hE0
          refine ⟨.tuple #[.bool false], ?_, hf⟩
          have h1 : (Question.mapNext 1).forced = true := rfl
          simp [Instr.next, addr, hg, hg2, h1]
  · cases e

theorem v2_val {x : Option (AV × Heap)} {v : AV} {h' : Heap} (e : v2 x = some (.val v h')) : x = some (v, h') := by
  unfold v2 at e
  split at e
  · cases e; rfl
  · cases e

theorem v3_val {x : Option Heap} {v : AV} {h' : Heap} (e : v3 x = some (.val v h')) : x = some h' ∧ v = nil := by
  unfold v3 at e
  split at e
  · cases e; exact ⟨rfl, rfl⟩
  · cases e

/-- What the machine's operation comes to, where the reckoner's comes to 'out'. -/
def Ends (N : Nat) (w0 w : World) (r : Result Next) : Out → Prop
  | .val v h' => ∃ V w', (r = .ok (.value V) w' ∨ (r = .ok .skip w' ∧ V = undef)) ∧ RV N v V ∧ Full N w0 h' w'
  | .call f args => ∃ A, r = .ok (.enter f A) w ∧ RVs N args A.toList
  | .defer fn c args => ∃ C A, r = .ok (.defer { target := .fn fn C, args := A }) w ∧ RVs N c C.toList ∧ RVs N args A.toList

/-- No function is the one that counts goroutines. -/
def NoCount (P : Program) : Prop := ∀ (f : Nat) (F : Func), P.funcs[f]? = some F → (F.name == "runtime.NumGoroutine") = false

theorem callFunc_ok {f : FuncId} {args : List AV} {out : Out} {A : Array Value} (hng : NoCount P) (e : ofCall P f args = some out) :
    (callFunc f A).run P w = .ok (.enter f A) w ∧ out = .call f args := by
  unfold ofCall at e
  split at e
  · rename_i F hF
    split at e
    · cases e
    · rename_i hb
      cases e
      refine ⟨?_, rfl⟩
      have h1 : F.name ≠ "runtime.NumGoroutine" := by simpa using hng f F hF
      have h2 : F.body ≠ none := by intro h; simp [h] at hb
      simp [callFunc, hF, h1, h2]
  · cases e

end
end Go.Proofs.YtbjaapiliegegaaGreatDoor.Ce
