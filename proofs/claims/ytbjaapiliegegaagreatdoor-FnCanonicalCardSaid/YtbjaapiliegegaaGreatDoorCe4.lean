/- The reckoner's builds, lengths; and all its still operations in one theorem. -/
import Derived.Test.YtbjaapiliegegaaGreatDoorCe3
namespace Go.Proofs.YtbjaapiliegegaaGreatDoor.Ce
open Go Go.RowKit

section
variable {N : Nat} {P : Program}

def RPs (N : Nat) : List (Nat × AV) → List (Nat × Value) → Prop
  | [], L => L = []
  | (i, v) :: l, L => ∃ V L', L = (i, V) :: L' ∧ RV N v V ∧ v ≠ .any ∧ RPs N l L'

theorem set_fold (off : Nat) : ∀ (l : List Value) (k : Nat) (cs : Array Value), off + k + l.length ≤ cs.size →
    ((l.zipIdx k).foldl (fun (cs : Array Value) (p : Value × Nat) => cs.setIfInBounds (off + p.2) p.1) cs).toList = cs.toList.take (off + k) ++ l ++ cs.toList.drop (off + k + l.length)
  | [], k, cs, _ => by simp
  | c :: l, k, cs, h => by
    simp only [List.zipIdx_cons, List.foldl_cons]
    rw [set_fold off l (k + 1) _ (by simp at h ⊢; omega)]
    simp only [Array.toList_setIfInBounds, List.length_cons]
    have e := list_seg_step cs.toList (off + k) c l (by simp at h ⊢; omega)
    simpa [Nat.add_assoc, Nat.add_comm 1] using e

theorem fill_ok {pl : Nat → Option (Nat × Nat)} : ∀ {parts : List (Nat × AV)} {cells r : List AV} {Parts : List (Nat × Value)} {C : Array Value}, afill pl cells parts = some r → RVs N cells C.toList → RPs N parts Parts →
    ∃ R, Instr.fill pl C Parts = some R ∧ RVs N r R.toList
  | [], cells, r, Parts, C, e, hc, hp => by
    simp only [afill] at e
    cases e
    rw [show Parts = [] from hp]
    exact ⟨C, rfl, hc⟩
  | (i, v) :: rest, cells, r, Parts, C, e, hc, hp => by
    obtain ⟨V, L', rfl, hv, hna, hp'⟩ := hp
    simp only [afill] at e
    split at e
    · cases e
    · rename_i off size hpl
      split at e
      · rename_i hl
        split at e
        · rename_i cells' hs
          have hvc := cellsOf_RV hv hna
          obtain ⟨h1, h2⟩ := RVs_splice hs hc hvc
          have hlen : V.cells.size = size := by rw [← hl, RVs_length hvc]; simp
          have hset : ((V.cells.zipIdx.foldl (fun cs (c, j) => cs.setIfInBounds (off + j) c) C)).toList = C.toList.take off ++ V.cells.toList ++ C.toList.drop (off + V.cells.toList.length) := by
            have := set_fold off V.cells.toList 0 C (by simpa using h1)
            rw [← Array.foldl_toList, Array.toList_zipIdx]
            simpa using this
          have hcond : ¬ ((decide (V.cells.size ≠ size) || decide (off + V.cells.size > C.size)) = true) := by
            simp only [Array.length_toList] at h1
            simp [hlen]
            omega
          obtain ⟨R, hR, hr⟩ := fill_ok (C := V.cells.zipIdx.foldl (fun cs (c, j) => cs.setIfInBounds (off + j) c) C) e (by rw [hset]; exact h2) hp'
          refine ⟨R, ?_, hr⟩
          simp only [Instr.fill, hpl]
          rw [if_neg (by simpa using hcond)]
          exact hR
        · cases e
      · cases e

theorem places_ok : ∀ {fs : List Field} {pl : List (Nat × Nat)}, placesOf P fs = some pl → fs.mapM (fun f => (P.info? f.type).map fun i => (f.offset, i.size)) = some pl
  | [], pl, e => by simp [placesOf] at e; subst e; rfl
  | f :: fs, pl, e => by
    simp only [placesOf] at e
    split at e
    · rename_i i r h1 h2
      cases e
      simp [List.mapM_cons, h1, places_ok h2]
    · cases e

theorem build_ok {w : World} {t : TypeId} {parts : List (Nat × AV)} {v : AV} {Parts : Array (Nat × Value)} (e : abuild P t parts = some v) (hp : RPs N parts Parts.toList) :
    ∃ V, (Instr.build t Parts).run P w = .ok V w ∧ RV N v V := by
  unfold abuild at e
  have hzero : ∀ {z : AV}, azero P t = some z → ∃ i Z, P.info? t = some i ∧ i.zero = some Z ∧ RV N z Z ∧ z ≠ .any := by
    intro z hz
    unfold azero at hz
    split at hz
    · rename_i i hi
      split at hz
      · rename_i Z hZ
        exact ⟨i, Z, hi, hZ, ofZero_RV hz, ofZero_any hz⟩
      · cases hz
    · cases hz
  split at e
  · rename_i z fs hz hu
    obtain ⟨i, Z, hi, hZ, hr, hna⟩ := hzero hz
    split at e
    · rename_i pl hpl
      split at e
      · rename_i cs hcs
        cases e
        obtain ⟨R, hR, hrr⟩ := fill_ok hcs (cellsOf_RV hr hna) hp
        refine ⟨.agg R, run_build w t Parts R ?_, R, rfl, hrr⟩
        unfold Program.built
        simp only [hi, hu, hZ, places_ok hpl]
        simpa using hR
      · cases e
    · cases e
  · rename_i z el hz hu
    obtain ⟨i, Z, hi, hZ, hr, hna⟩ := hzero hz
    split at e
    · rename_i q hq
      split at e
      · rename_i cs hcs
        cases e
        obtain ⟨R, hR, hrr⟩ := fill_ok hcs (cellsOf_RV hr hna) hp
        refine ⟨.agg R, run_build w t Parts R ?_, R, rfl, hrr⟩
        unfold Program.built
        simp only [hi, hu, hZ, hq]
        exact hR
      · cases e
    · cases e
  · cases e

theorem known_any {v : AV} (h : known v = true) : v ≠ .any := by rintro rfl; cases h

theorem parts_ok {nt : Nat} {tm : Tm} {T : Array Value} {ds : List Deferred} (hF : RF N nt tm T) : ∀ {ps : List (Nat × Operand)} {l : List (Nat × AV)}, aparts tm ps = some l →
    RPs N l (ps.map fun (i, x) => (i, (⟨T, ds⟩ : Act).eval x))
  | [], l, e => by simp [aparts] at e; subst e; rfl
  | (i, x) :: ps, l, e => by
    simp only [aparts] at e
    split at e
    · rename_i v r h1 h2
      split at e
      · rename_i hk
        cases e
        exact ⟨_, _, rfl, aeval_RV hF h1, known_any hk, parts_ok hF h2⟩
      · cases e
    · cases e

theorem len_ok {h : Heap} {w : World} (hD : Den N h w) {ts : Array TypeId} {t ty : TypeId} {x v : AV} {X : Value} (ht : ts[0]? = some t) (e : alen P t h x = some v) (hx : RV N x X) :
    ∃ V, (Builtin.len_ ts ty #[X]).run P w = .ok V w ∧ RV N v V := by
  unfold alen at e
  split at e <;> first | (cases e; done) | skip
  · rename_i s hu
    rw [show X = _ from hx]
    cases e
    exact ⟨_, by simp [Builtin.len_, ht, run_underlying hu]; rfl, by simp [goInt, ByteArray.size, RV]⟩
  · rename_i el a n c hu
    obtain ⟨c', rfl, _⟩ := slice_RV hx
    cases e
    exact ⟨_, by simp [Builtin.len_, ht, run_underlying hu]; rfl, rfl⟩
  · rename_i el hu
    obtain ⟨a, c, rfl⟩ := hx
    cases e
    exact ⟨_, by simp [Builtin.len_, ht, run_underlying hu]; rfl, rfl⟩
  · rename_i k el hu
    rw [show X = _ from hx]
    cases e
    exact ⟨_, by simp [Builtin.len_, ht, run_underlying hu]; rfl, rfl⟩
  · rename_i k el r hu
    rw [show X = _ from hx]
    cases ha : h.at r with
    | none => rw [ha] at e; cases e
    | some q =>
      rw [ha] at e
      obtain ⟨_, O, hO, hR⟩ := hD r q ha
      cases q <;> simp only at e <;> first | (cases e; done) | skip
      rename_i es clock
      cases e
      obtain ⟨E, rfl, hE⟩ := hR
      have hlen : ∀ {es : List (AV × AV × Nat)} {Es : List MapEntry}, RE N es Es → es.length = Es.length := by
        intro es
        induction es with
        | nil => intro Es h; rw [show Es = [] from h]; rfl
        | cons x es ih => intro Es h; obtain ⟨k, v, b⟩ := x; obtain ⟨E, Es', rfl, _, _, _, h⟩ := h; simp [ih h]
      have hg : (getObj (bt N r)).run P w = .ok (.map E clock) w := by simp [getObj, Sem.run, hO]
      refine ⟨goInt E.size, ?_, ?_⟩
      · simp [Builtin.len_, ht, run_underlying hu, hg]
      · show Value.int .i64 _ = Value.int .i64 _
        rw [hlen hE]
        simp

theorem opt_RV {nt : Nat} {tm : Tm} {T : Array Value} {ds : List Deferred} (hF : RF N nt tm T) {x : Option Operand} {v : Option AV} (e : opt tm x = some v) : RVo N v (x.map (⟨T, ds⟩ : Act).eval) := by
  unfold opt at e
  split at e
  · cases e; rfl
  · split at e
    · rename_i u hu; cases e; exact ⟨_, rfl, aeval_RV hF hu⟩
    · cases e

theorem v1_val {h h' : Heap} {x : Option AV} {v : AV} (e : v1 h x = some (.val v h')) : x = some v ∧ h' = h := by
  unfold v1 at e
  split at e
  · cases e; exact ⟨rfl, rfl⟩
  · cases e

theorem sem_val {s : Sem Value} {w w' : World} {V : Value} (h : s.run P w = .ok V w') : (do pure (Next.value (← s)) : Sem Next).run P w = .ok (.value V) w' := by
  simp [h]

theorem capOf_eq {x : AV} {c : Nat} (e : capOf x = some c) : ∃ a n, x = .slice a n (some c) := by
  unfold capOf at e
  split at e
  · cases e; exact ⟨_, _, rfl⟩
  · cases e

/-- ALL STILL OPERATIONS. -/
theorem stable_ok {h : Heap} {w : World} (hD : Den N h w) {nt : Nat} {tm : Tm} {T : Array Value} {ds : List Deferred} (hF : RF N nt tm T) {o : Oper} {v : AV} {h' : Heap}
    (hs : stable o.op = true) (e : aop P tm h o = some (.val v h')) : ∃ V, (execOp (⟨T, ds⟩ : Act).eval o).run P w = .ok (.value V) w ∧ RV N v V ∧ h' = h := by
  have hev : ∀ {x : Operand} {u : AV}, aeval tm x = some u → RV N u ((⟨T, ds⟩ : Act).eval x) := fun h => aeval_RV hF h
  unfold aop at e
  cases hop : o.op <;> rw [hop] at hs <;> simp only [hop] at e <;> first | (simp [stable] at hs; done) | skip
  case move x => obtain ⟨h1, h2⟩ := v1_val e; exact ⟨_, by simp [execOp, hop], hev h1, h2⟩
  case assign x => obtain ⟨h1, h2⟩ := v1_val e; exact ⟨_, by simp [execOp, hop], hev h1, h2⟩
  case pick c a b =>
    split at e
    · rename_i t hc
      have hcv : (⟨T, ds⟩ : Act).eval c = .bool t := hev hc
      obtain ⟨h1, h2⟩ := v1_val e
      cases t
      · exact ⟨_, by simp [execOp, hop, hcv, asBool]; rfl, hev (by simpa using h1), h2⟩
      · exact ⟨_, by simp [execOp, hop, hcv, asBool]; rfl, hev (by simpa using h1), h2⟩
    · cases e
  case build t ps =>
    split at e
    · rename_i l hl
      obtain ⟨h1, h2⟩ := v1_val e
      obtain ⟨V, hV, hr⟩ := build_ok (w := w) h1 (show RPs N l (ps.map fun (i, x) => (i, (⟨T, ds⟩ : Act).eval x)).toList by simpa using parts_ok hF hl)
      exact ⟨V, by simp only [execOp, hop]; exact sem_val hV, hr, h2⟩
    · cases e
  case load t a =>
    split at e
    · rename_i b off ha
      have hav : (⟨T, ds⟩ : Act).eval a = .pointer (some ⟨bt N b, off, none⟩) := hev ha
      obtain ⟨h1, h2⟩ := v1_val e
      obtain ⟨V, hV, hr⟩ := aload_ok hD h1
      exact ⟨V, by simp only [execOp, hop, hav]; exact sem_val (by simpa [Instr.loadAt, Instr.sureAddr] using hV), hr, h2⟩
    · cases e
  case nilCheck x =>
    split at e
    · rename_i u hu
      obtain ⟨h1, h2⟩ := v1_val e
      obtain ⟨h3, h4⟩ := nilCheck_ok (w := w) hop (hev hu) h1
      exact ⟨_, h3, h4 ▸ hev hu, h2⟩
    · cases e
  case binOp op t x y yt =>
    split at e
    · rename_i a b ha hb
      split at e
      · rename_i hg
        obtain ⟨h1, h2⟩ := v1_val e
        obtain ⟨R, hR, hr⟩ := bin_ok (w := w) h1 (hev ha) (hev hb)
        refine ⟨R, ?_, hr, h2⟩
        simp only [execOp, hop]
        exact sem_val (by simp [guard_ok (t := t) (w := w) hg (hev ha) (hev hb), hR])
      · cases e
    · cases e
  case unOp op t x =>
    split at e
    · rename_i u hu
      obtain ⟨h1, h2⟩ := v1_val e
      obtain ⟨R, hR, hr⟩ := un_ok (P := P) (w := w) h1 (hev hu)
      exact ⟨R, by simp only [execOp, hop]; exact sem_val hR, hr, h2⟩
    · cases e
  case makeInterface t x =>
    split at e
    · cases e
    · rename_i u d hnd hu hd
      cases e
      refine ⟨.iface t ((⟨T, ds⟩ : Act).eval x), ?_, ⟨_, rfl, hev hu⟩, rfl⟩
      simp only [execOp, hop]
      refine sem_val ?_
      cases d <;> first | (exact (hnd _ rfl).elim) | simp [Instr.makeInterface, run_underlying hd]
    · cases e
  case makeFunc fn first captured =>
    split at e
    · rename_i f c hf hc
      cases e
      refine ⟨.func fn (first.map (⟨T, ds⟩ : Act).eval) (captured.map (⟨T, ds⟩ : Act).eval), ?_, ⟨_, _, rfl, ?_, ?_⟩, rfl⟩
      · simp only [execOp, hop]
        exact sem_val rfl
      · simpa using aevals_RV hF hf
      · simpa using aevals_RV hF hc
    · cases e
  case slice t x lo hi mx =>
    split at e
    · cases e
    · rename_i hna
      split at e
      · rename_i u l hh m hu hl hhh hm
        obtain ⟨h1, h2⟩ := v1_val e
        obtain ⟨V, hV, hr⟩ := slice_ok (w := w) h1 (hev hu) (opt_RV (ds := ds) hF hl) (opt_RV (ds := ds) hF hhh) (opt_RV (ds := ds) hF hm)
        refine ⟨V, ?_, hr, h2⟩
        simp only [execOp, hop]
        refine sem_val ?_
        cases hd : P.underlying t with
        | none => unfold aslice at h1; simp only [hd] at h1; cases h1
        | some d =>
          simp only [Instr.sliceAt, Sem.run_bind, run_underlying hd, Result.andThen_ok]
          cases d <;> first | exact hV | (exact (hna _ _ hd).elim)
      · cases e
  case fieldAddr t x f =>
    split at e
    · rename_i b off0 off ft hx hfo
      split at e
      · rename_i i hi
        split at e
        · cases e
        · rename_i hz
          cases e
          have hxv : (⟨T, ds⟩ : Act).eval x = .pointer (some ⟨bt N b, off0, none⟩) := hev hx
          refine ⟨_, ?_, rfl, rfl⟩
          simp only [execOp, hop, hxv]
          exact sem_val (fieldAddr_ok hfo hi hz)
      · cases e
    · cases e
  case field t x f =>
    split at e
    · rename_i cs off ft hx hfo
      obtain ⟨C, hC, hc⟩ := hev hx
      obtain ⟨h1, h2⟩ := v1_val e
      obtain ⟨V, hV, hr⟩ := field_ok (w := w) hfo h1 hc
      exact ⟨V, by simp only [execOp, hop, hC]; exact sem_val hV, hr, h2⟩
    · cases e
  case indexAddr t x ix =>
    split at e
    · rename_i a i ha hi
      obtain ⟨h1, h2⟩ := v1_val e
      obtain ⟨V, hV, hr⟩ := indexAddr_ok (w := w) h1 (hev ha) (hev hi)
      exact ⟨V, by simp only [execOp, hop]; exact sem_val hV, hr, h2⟩
    · cases e
  case index t x ix =>
    split at e
    · rename_i a i ha hi
      obtain ⟨h1, h2⟩ := v1_val e
      obtain ⟨V, hV, hr⟩ := index_ok (w := w) h1 (hev ha) (hev hi)
      exact ⟨V, by simp only [execOp, hop]; exact sem_val hV, hr, h2⟩
    · cases e
  case typeAssert x xt asserted ok =>
    split at e
    · rename_i u hu
      obtain ⟨h1, h2⟩ := v1_val e
      obtain ⟨V, hV, hr⟩ := assert_ok (w := w) (xt := xt) h1 (hev hu)
      exact ⟨V, by simp only [execOp, hop]; exact sem_val hV, hr, h2⟩
    · cases e
  case extract t ix =>
    split at e
    · rename_i vs ht
      obtain ⟨C, hC, hc⟩ := hev ht
      obtain ⟨h1, h2⟩ := v1_val e
      obtain ⟨V, hV, hr⟩ := RVs_get hc h1
      have hV' : C[ix]? = some V := by simpa using hV
      exact ⟨V, by simp only [execOp, hop, hC]; exact sem_val (by simp [Instr.extract, hV']), hr, h2⟩
    · cases e
  case call c =>
    split at e
    · cases e
    · rename_i args ha
      have hargs := aevals_RV (ds := ds) hF ha
      obtain ⟨callee, cargs, ats⟩ := c
      cases callee with
      | value f => simp [stable] at hs
      | invoke r m => simp [stable] at hs
      | builtin b =>
        simp only [abuiltin] at e
        cases b <;> first | (simp [stable] at hs; done) | skip
        case len =>
          match args, hargs, e with
          | [], _, e => simp at e
          | [x], ⟨X, Ws, hX, hx, hn⟩, e =>
            rw [show Ws = [] from hn] at hX
            simp only at e
            split at e
            · rename_i t ht
              obtain ⟨h1, h2⟩ := v1_val e
              obtain ⟨V, hV, hr⟩ := len_ok hD (ty := o.type) ht h1 hx
              refine ⟨V, ?_, hr, h2⟩
              have hX' : cargs.map (⟨T, ds⟩ : Act).eval = #[X] := by
                apply Array.toList_inj.1
                simpa using hX
              simp only [execOp, hop, resolve, Sem.run_bind, Sem.run_pure, Result.andThen_ok, invoke, builtin, hX']
              simp [hV]
            · cases e
          | _ :: _ :: _, _, e => simp at e
        case cap =>
          match args, hargs, e with
          | [], _, e => simp at e
          | [x], ⟨X, Ws, hX, hx, hn⟩, e =>
            rw [show Ws = [] from hn] at hX
            simp only at e
            split at e
            · rename_i t c ht hc
              split at e
              · rename_i el hu
                cases e
                refine ⟨.int .i64 c, ?_, rfl, rfl⟩
                have hX' : cargs.map (⟨T, ds⟩ : Act).eval = #[X] := by
                  apply Array.toList_inj.1
                  simpa using hX
                obtain ⟨a, n, rfl⟩ := capOf_eq hc
                simp only [execOp, hop, resolve, Sem.run_bind, Sem.run_pure, Result.andThen_ok, invoke, builtin, hX']
                rw [show X = _ from hx]
                simp [Builtin.cap_, ht, run_underlying hu, goInt]
              · cases e
            · cases e
          | _ :: _ :: _, _, e => simp at e
end
end Go.Proofs.YtbjaapiliegegaaGreatDoor.Ce
