/- Of the proof of FnNoBody: SgD. -/
import Derived.Test.YtbjaapiliegegaaGreatDoorSgC
set_option linter.unusedVariables false
set_option linter.unusedSimpArgs false
namespace Go.Proofs.YtbjaapiliegegaaGreatDoor.Sy
open Go
set_option maxRecDepth 100000
variable {w0 : World} {h : Heap}
def leS (a b : Str) : Bool := decide (a ≤ b)
def sortS (l : List Str) : List Str := l.mergeSort leS
theorem sortS_len (l : List Str) : (sortS l).length = l.length := List.length_mergeSort _
theorem leS_trans (a b c : Str) (h1 : leS a b = true) (h2 : leS b c = true) : leS a c = true :=
 decide_eq_true (List.le_trans (of_decide_eq_true h1) (of_decide_eq_true h2))
theorem leS_total (a b : Str) : (leS a b || leS b a) = true := by
 rcases List.le_total a b with h | h
 ·rw [show leS a b = true from decide_eq_true h]; rfl
 ·rw [show leS b a = true from decide_eq_true h, Bool.or_true]
theorem sortS_perm {a b : List Str} (p : a.Perm b) : sortS a = sortS b := by
 refine List.Perm.eq_of_pairwise (le := fun x y => leS x y = true) (fun x y _ _ h1 h2 => List.le_antisymm (of_decide_eq_true h1) (of_decide_eq_true h2)) (List.pairwise_mergeSort leS_trans leS_total a) (List.pairwise_mergeSort leS_trans leS_total b) ?_
 exact (List.mergeSort_perm a leS).trans (p.trans (List.mergeSort_perm b leS).symm)
theorem cells_sorted (ss ss' : List Str) (rest : List Value) (hl : ss'.length = ss.length) : Sort.putCells encStr 0 ss'.toArray (ss.map S ++ rest).toArray = (ss'.map S ++ rest).toArray := by
 apply Array.ext_getElem?
 intro k
 unfold Sort.putCells
 rw [Array.getElem?_mapIdx, List.getElem?_toArray, List.getElem?_toArray]
 simp only [Nat.zero_le, true_and, Nat.zero_add, Nat.sub_zero, List.size_toArray]
 by_cases hk : k < ss.length
 ·rw [List.getElem?_append_left (by rw [List.length_map]; exact hk), List.getElem?_append_left (by rw [List.length_map]; omega), List.getElem?_map, List.getElem?_map, List.getElem?_eq_getElem hk, List.getElem?_eq_getElem (by omega)]
  simp only [Option.map_some]
  rw [if_pos (by omega), getElem!_pos ss'.toArray k (by simp; omega)]
  rfl
 ·rw [List.getElem?_append_right (by rw [List.length_map]; omega), List.getElem?_append_right (by rw [List.length_map]; omega), List.length_map, List.length_map, hl]
  cases rest[k - ss.length]? with
  | none => rfl
  | some x => simp only [Option.map_some]; rw [if_neg (by omega)]
theorem sort_ok {b cp : Nat} {ss : List Str} {rest : List Value} (hNb : w0.heap.size ≤ b) (hat : h.at b = some (.cells (ss.map S ++ rest) 9 0 0)) (hl : ss.length < 4611686018427387904) :
  ACall Tryz.prog w0 87 [.slice (some ⟨b, 0, none⟩) ss.length cp] h (fun _ h' => h.n ≤ h'.n ∧ h'.at b = some (.cells ((sortS ss).map S ++ rest) 9 0 0) ∧ ∀ i, i < h.n → i ≠ b → h'.at i = h.at i) := by
 intro w hF
 have hob : w.heap[b]? = some (.cells (ss.map S ++ rest).toArray 9 (0, 0)) := hF.den b _ hat
 have hbl : b < w.heap.size := by
  rcases Nat.lt_or_ge b w.heap.size with h1 | h1
  ·exact h1
  ·rw [Array.getElem?_eq_none h1] at hob; cases hob
 have hH : Sort.Holds encStr w b 0 ss.toArray := by
  intro j hj
  have hj' : j < ss.length := by simpa using hj
  refine ⟨?_, ?_⟩
  ·unfold World.cell?
   simp only [hob, Nat.zero_add, Option.isSome_none, Bool.false_eq_true, if_false, List.getElem?_toArray]
   rw [List.getElem?_append_left (by rw [List.length_map]; exact hj'), List.getElem?_map, List.getElem?_eq_getElem hj', getElem!_pos ss.toArray j hj]
   rfl
  ·unfold World.frozen?
   simp [hob]
 refine Calls.mono (Tryz.slices_Sort_string b 0 cp ss w hH hbl hl) ?_
 rintro e w' ⟨rfl, n, os, rfl⟩
 have hmm : (ss.mergeSort fun x y => decide (x ≤ y)) = sortS ss := rfl
 rw [hmm]
 have hsz : (Sort.grow (Sort.putRow encStr (Sort.ahead w n) b 0 (sortS ss).toArray) os).heap.size = w.heap.size + os.size := by
  show ((Sort.putRow encStr (Sort.ahead w n) b 0 (sortS ss).toArray).heap ++ os).size = _
  rw [Array.size_append, Sort.size_putRow]
  rfl
 have hget : ∀ i, i < w.heap.size → (Sort.grow (Sort.putRow encStr (Sort.ahead w n) b 0 (sortS ss).toArray) os).heap[i]? = (w.heap.modify b (Sort.onCells (Sort.putCells encStr 0 (sortS ss).toArray)))[i]? := by
  intro i hi
  show ((Sort.putRow encStr (Sort.ahead w n) b 0 (sortS ss).toArray).heap ++ os)[i]? = _
  rw [Array.getElem?_append_left (by rw [Sort.size_putRow]; exact hi)]
  rfl
 have hother : ∀ i, i < w.heap.size → i ≠ b → (Sort.grow (Sort.putRow encStr (Sort.ahead w n) b 0 (sortS ss).toArray) os).heap[i]? = w.heap[i]? := by
  intro i hi hne
  rw [hget i hi, Array.getElem?_modify, if_neg (fun e => hne e.symm)]
 refine ⟨_, (⟨w.heap.size + os.size, h.l⟩ : Heap).put b (.cells ((sortS ss).map S ++ rest) 9 0 0), rfl, ⟨hsz, ?_, ?_⟩, ?_, at_put_eq _ _ _, fun i hi hne => at_put_ne _ _ hne⟩
 ·intro c o hc
  by_cases hcb : b = c
  ·subst hcb
   rw [at_put_eq] at hc
   cases hc
   show (Sort.grow _ os).heap[b]? = _
   rw [hget b hbl, Array.getElem?_modify, if_pos rfl, hob]
   show some (Obj.cells (Sort.putCells encStr 0 (sortS ss).toArray (ss.map S ++ rest).toArray) 9 (0, 0)) = _
   rw [cells_sorted ss _ rest (sortS_len ss)]
   rfl
  ·rw [at_put_ne _ _ (fun e => hcb e.symm)] at hc
   have h1 := hF.den c o hc
   have h2 : c < w.heap.size := by
    rcases Nat.lt_or_ge c w.heap.size with h2 | h2
    ·exact h2
    ·rw [Array.getElem?_eq_none h2] at h1; cases h1
   exact (hother c h2 (fun e => hcb e.symm)).trans h1
 ·exact hF.below.trans ⟨rfl, rfl, rfl, by rw [hsz]; omega, fun k hk => hother k (by have := hF.below.size; omega) (by omega)⟩
 ·show h.n ≤ w.heap.size + os.size
  have := hF.size
  omega
theorem sort_none (a : Option Addr) (cp : Nat) : ACall Tryz.prog w0 87 [.slice a 0 cp] h (fun _ h' => h' = h) := by
 intro w hF
 refine Calls.mono (Tryz.slices_Sort_string_none a cp w) ?_
 rintro e w' ⟨rfl, rfl⟩
 exact ⟨_, h, rfl, hF, rfl⟩
theorem sortRow_ok {v : Value} {ss : List Str} {lo : Nat} (hNl : w0.heap.size ≤ lo) (r : Strs lo h v ss) (hl : ss.length < 1000000000) :
  ACall Tryz.prog w0 87 [v] h (fun _ h' => h.n ≤ h'.n ∧ Strs lo h' v (sortS ss) ∧ ∀ i, i < lo → h'.at i = h.at i) := by
 rcases r with ⟨rfl, h0, h1⟩ | ⟨b, cp, rest, rfl, h1, h2, h3, h4, h5⟩
 ·refine (sort_none _ _).mono ?_
  rintro v h' rfl
  obtain rfl := List.eq_nil_of_length_eq_zero h0
  have hs0 : sortS [] = [] := by simp [sortS]
  rw [hs0]
  exact ⟨Nat.le_refl _, .inl ⟨rfl, rfl, rfl⟩, fun _ _ => rfl⟩
 ·refine (sort_ok (by omega) h3 (by omega)).mono ?_
  rintro v h' ⟨n1, a1, k1⟩
  refine ⟨n1, .inr ⟨b, cp, rest, by rw [sortS_len], h1, by omega, a1, by rw [List.length_map, Nat.mul_one], ?_⟩, fun i hi => ?_⟩
  ·rw [List.length_map] at h5 ⊢
   rw [sortS_len]; exact h5
  ·rcases Nat.lt_or_ge i h.n with hi2 | hi2
   ·exact k1 i hi2 (by omega)
   ·omega
theorem next_map {r mb clock N : Nat} {seen : List Nat} {ms : List MapEntry} (hr : h.at r = some (.miter (some mb) clock seen clock)) (hm : h.at mb = some (.map ms clock)) (hN : N ≤ r) (hb : Born ms clock) (c : Nat) :
  (ms.filter (fun e => !seen.contains e.born) = [] ∧ anext N h (ptr r 0) false c = some (.tuple #[.bool false], h)) ∨
  ∃ e, e ∈ ms.filter (fun e => !seen.contains e.born) ∧ anext N h (ptr r 0) false c = some (.tuple #[.bool true, e.key, e.val], h.put r (.miter (some mb) clock (seen ++ [e.born]) clock)) := by
 have e0 : anext N h (ptr r 0) false c = anextM h r mb clock seen clock (ms.filter fun e => !seen.contains e.born) c := by
  unfold anext
  simp only [hr, hm]
  rw [if_pos (by first | exact ⟨hN, hb.1, rfl, rfl⟩ | exact ⟨hN, hb.1, trivial, trivial⟩ | exact ⟨hN, hb.1, trivial⟩)]
 rw [e0]
 cases hf : ms.filter (fun e => !seen.contains e.born) with
 | nil => exact .inl ⟨by first | rfl | trivial, rfl⟩
 | cons x l =>
  right
  have hlt : c % (x :: l).length < (x :: l).length := Nat.mod_lt _ (Nat.succ_pos _)
  refine ⟨(x :: l)[c % (x :: l).length], List.getElem_mem _, ?_⟩
  unfold anextM
  simp only [List.getElem?_eq_getElem hlt]
def keyB (m : MapEntry) : Str := match m.key with | .string s => bytes s | _ => []
theorem rel_keys : ∀ {es : List Ent} {ms : List MapEntry}, HMrel h es ms → ms.map keyB = es.map (·.key) ∧ (∀ m ∈ ms, m.key = S (keyB m)) ∧ ms.length = es.length
 | [], [], _ => ⟨rfl, by simp, rfl⟩
 | e :: es, m :: ms, hr => by
  obtain ⟨h1, h2, h3⟩ := rel_keys hr.2.2
  have hk : keyB m = e.key := by unfold keyB; rw [hr.1]; rfl
  refine ⟨by rw [List.map_cons, List.map_cons, h1, hk], fun x hx => ?_, by rw [List.length_cons, List.length_cons, h3]⟩
  rcases List.mem_cons.1 hx with rfl | hx
  ·rw [hk]; exact hr.1
  ·exact h2 x hx
 | [], _ :: _, hr => hr.elim
 | _ :: _, [], hr => hr.elim
theorem filter_less {ms : List MapEntry} {seen : List Nat} {e : MapEntry} (he : e ∈ ms.filter (fun e => !seen.contains e.born)) : (ms.filter (fun x => !(seen ++ [e.born]).contains x.born)).length < (ms.filter (fun x => !seen.contains x.born)).length := by
 have : ms.filter (fun x => !(seen ++ [e.born]).contains x.born) = (ms.filter (fun x => !seen.contains x.born)).filter (fun x => !(x.born == e.born)) := by
  rw [List.filter_filter]
  refine List.filter_congr fun x _ => ?_
  rw [Bool.eq_iff_iff]
  simp [and_comm]
 rw [this]
 have h1 := List.length_filter_lt_length_iff_exists (l := ms.filter (fun x => !seen.contains x.born)) (p := fun x => !(x.born == e.born))
 exact h1.2 ⟨e, he, by simp⟩
theorem all_seen {ms ps : List MapEntry} {clock : Nat} (hb : Born ms clock) (hp : ∀ p ∈ ps, p ∈ ms) (hn : (ps.map (·.born)).Nodup) (hall : ms.filter (fun e => !(ps.map (·.born)).contains e.born) = []) : (ps.map keyB).Perm (ms.map keyB) := by
 refine List.Perm.map _ ?_
 have n1 : ps.Nodup := List.Pairwise.of_map MapEntry.born (fun a b hne e => hne (congrArg _ e)) hn
 have n2 : ms.Nodup := List.Pairwise.of_map MapEntry.born (fun a b hne e => hne (congrArg _ e)) hb.2
 refine (List.perm_ext_iff_of_nodup n1 n2).2 fun a => ⟨hp a, fun ha => ?_⟩
 have h1 := List.filter_eq_nil_iff.1 hall a ha
 have h2 : a.born ∈ ps.map (·.born) := by simpa using h1
 obtain ⟨p, hp1, hp2⟩ := List.mem_map.1 h2
 have hinj : ∀ {l : List MapEntry}, (l.map (·.born)).Nodup → ∀ x ∈ l, ∀ y ∈ l, x.born = y.born → x = y := by
  intro l
  induction l with
  | nil => intro _ x hx; cases hx
  | cons z t ih =>
   intro hd x hx y hy hxy
   rw [List.map_cons, List.nodup_cons] at hd
   rcases List.mem_cons.1 hx with ex | hx <;> rcases List.mem_cons.1 hy with ey | hy
   ·exact ex.trans ey.symm
   ·exact absurd (List.mem_map.2 ⟨y, hy, by rw [← hxy, ex]⟩) hd.1
   ·exact absurd (List.mem_map.2 ⟨x, hx, by rw [hxy, ey]⟩) hd.1
   ·exact ih hd.2 x hx y hy hxy
 rw [← hinj hb.2 p (hp p hp1) a ha hp2]
 exact hp1
def fieldsH (hs : Hdr) : List Fld := (sortS (hs.map (·.1))).flatMap fun n => (valsH hs n).map fun v => (n, v)
def IFlds (lo : Nat) (h : Heap) (v : Value) (fs : List Fld) : Prop := Row lo h 107 2 v fs.length (fcells fs)
theorem app_ifld {lo c b : Nat} {v : Value} {fs : List Fld} {x : Fld} {N : Nat} (r : IFlds lo h v fs) (hN : N ≤ lo) (hlo : lo ≤ h.n) (hat : h.at b = some (.cells [S x.1, S x.2] 107 0 0)) (hbig : fs.length + 1 ≤ 2 ^ 32) :
  ∃ v' h', aappend N Tryz.prog h #[38, 38] v (.slice (some ⟨b, 0, none⟩) 1 1) c = some (v', h') ∧ IFlds lo h' v' (fs ++ [x]) ∧ h.n ≤ h'.n ∧ (∀ b, b < h.n → Off b v → h'.at b = h.at b) ∧ (∀ b, ¬Off b v' → ¬Off b v ∨ h.n ≤ b) := by
 obtain ⟨v', h', e, r', h1, h2, h3⟩ := aappend_row (c := c) Tryz.underlying38 s_107 b_107 z_107 rfl (by decide) (by decide) hN hlo r (x := .slice (some ⟨b, 0, none⟩) 1 1) (m := 1) (new := [S x.1, S x.2])
  (by simp only [tailOf, lenOf, firstN, loadN_eq, hat, loadC_some]; rw [only_pos (by simp)]; rfl) rfl (by intro v hv; simp at hv; rcases hv with rfl | rfl <;> rfl) hbig
 refine ⟨v', h', e, ?_, h1, h2, h3⟩
 unfold IFlds
 rw [List.length_append, fcells_app]
 exact r'
theorem aentry_of {r mb since clock b : Nat} {seen : List Nat} {ms : List MapEntry} {e : MapEntry} (hr : h.at r = some (.miter (some mb) since (seen ++ [e.born]) clock)) (hm : h.at mb = some (.map ms clock)) (hb : Born ms clock) (he : e ∈ ms) : aentry h (ptr r 0) = some (.tuple #[e.key, e.val]) := by
 have hf : ms.find? (fun x => x.born == e.born) = some e := by
  have hd := hb.2
  clear hm hb
  induction ms with
  | nil => cases he
  | cons z t ih =>
   rw [List.map_cons, List.nodup_cons] at hd
   rcases List.mem_cons.1 he with rfl | he
   ·rw [List.find?_cons_of_pos (by simp)]
   ·rw [List.find?_cons_of_neg, ih he hd.2]
    have : z.born ≠ e.born := fun q => hd.1 (List.mem_map.2 ⟨e, he, q.symm⟩)
    simpa using this
 unfold aentry
 simp only [hr, hm, List.getLast?_append, List.getLast?_singleton, Option.some_or, if_true, hf]
def valF (hs : Hdr) (n : Str) : List Fld := (valsH hs n).map fun v => (n, v)
theorem valF_nth {hs : Hdr} {n : Str} {j : Nat} (hj : j < (valsH hs n).length) : (valF hs n).take (j + 1) = (valF hs n).take j ++ [(n, snth (valsH hs n) j)] := by
 unfold valF
 rw [List.take_add_one, List.getElem?_map, snth_get hj]
 rfl
theorem flat_take {hs : Hdr} {ns : List Str} {k : Nat} (hk : k < ns.length) : (ns.take (k + 1)).flatMap (valF hs) = (ns.take k).flatMap (valF hs) ++ valF hs (snth ns k) := by
 rw [List.take_add_one, List.flatMap_append, snth_get hk]
 simp
theorem flat_le {hs : Hdr} : ∀ (ns : List Str) (k : Nat), ((ns.take k).flatMap (valF hs)).length ≤ (ns.flatMap (valF hs)).length
 | [], k => by simp
 | a :: t, 0 => by simp
 | a :: t, k + 1 => by
  have := flat_le (hs := hs) t k
  simp only [List.take_succ_cons, List.flatMap_cons, List.length_append]
  omega
set_option maxHeartbeats 16000000 in
theorem fieldsMap_ok {own : Nat → Prop} {mb : Nat} {hs : Hdr} (m : HMap own h mb hs []) (hk : hs.length < 1000000000) (hsh : ShortH hs) (htot : (fieldsH hs).length < 1000000000) :
  ACall Tryz.prog w0 50 [.map (some mb)] h (fun v h' => Ext h h' ∧ IFlds h.n h' v (fieldsH hs)) := by
 refine ACall.known fun hKn => ?_
 obtain ⟨hN, hB⟩ := hKn
 refine ACall.run noCount mixed Tryz.func50 rfl (by kernel_rfl) (Nat.le_of_ble_eq_true rfl) fun X hX => ?_
 have m0 := m
 obtain ⟨es, ms, clock, M⟩ := m
 have hml := M.lmb
 have hmat := M.at'
 obtain ⟨hk1, hk2, hk3⟩ := rel_keys M.rel
 have hes : ms.map keyB = hs.map (·.1) := by rw [hk1, M.hs']; simp [ofE]
 have hmsl : ms.length = hs.length := by have := congrArg List.length hes; simpa using this
 (repeat simp only[push_cast,go_sem_proc,↓ite_only,M_block,hmat])
 generalize hhe : Heap.new h _ = h1
 have n1 : h1.n = h.n + 1 := by rw [← hhe]; rfl
 have x1 : Ext h h1 := by rw [← hhe]; exact Keep.ext (by repeat (first | exact Keep.refl _ _ | assumption | refine Keep.put ?_ (by first | (left; simp; done) | (right; omega)) _ | refine Keep.new ?_ _))
 have r1 : h1.at h.n = some (.miter (some mb) clock [] clock) := by rw [← hhe]; exact at_new_eq _ _
 clear hhe
 refine M_loop (fun tm h2 n => ∃ (ps : List MapEntry) (v : Value), n = (ms.filter (fun e => !(ps.map (·.born)).contains e.born)).length ∧ ps.length + n ≤ ms.length ∧ (∀ p ∈ ps, p ∈ ms) ∧ (ps.map (·.born)).Nodup ∧ Ext h h2 ∧ h.n < h2.n ∧ h2.at h.n = some (.miter (some mb) clock (ps.map (·.born)) clock) ∧ Strs (h.n + 1) h2 v (ps.map keyB) ∧ tget tm 3 = v ∧ tget tm 11 = ptr h.n 0 ∧ tget tm 0 = .map (some mb)) ms.length
  ⟨[], _, by show _ = (List.filter (fun _ => true) ms).length; rw [List.filter_eq_self.2 (fun _ _ => rfl)], by simp, by simp, by simp, x1, by omega, r1, Row.nil _ _ _ _, (by simp only[zT,Nat.reduceBEq]), (by simp only[zT,Nat.reduceBEq]), (by simp only[zT,Nat.reduceBEq])⟩ ?_
 rintro tm h2 n R ⟨ps, v, rfl, hpn, hpm, hpd, x2, hl2, r2, sv, t3, t11, t0⟩ hR hE
 have hm2 := (x2.2 _ hml).trans hmat
 (repeat simp only[push_cast,go_sem_proc,↓ite_only,M_block,t11])
 intro c
 rcases next_map (N := w0.heap.size) r2 hm2 hN M.brn c with ⟨hf, e⟩ | ⟨en, hen, e⟩
 ·rw [e]
  (repeat simp only[push_cast,go_sem_proc,↓ite_only,M_block])
  (with_reducible refine hE _ _ _ _ (nomatch ·) ?_)
  (repeat simp only[push_cast,go_sem_proc,↓ite_only,M_block,t3])
  refine callM_of (sortRow_ok (by omega) sv (by rw [List.length_map]; omega)) ?_
  rintro u h3 ⟨n3, sv3, k3⟩
  have hnames : sortS (ps.map keyB) = sortS (hs.map (·.1)) := sortS_perm (by rw [← hes]; exact all_seen M.brn hpm hpd hf)
  rw [hnames] at sv3
  obtain ⟨ns, hns⟩ : ∃ ns, sortS (hs.map (·.1)) = ns := ⟨_, rfl⟩
  have hnl : ns.length = hs.length := by rw [← hns, sortS_len, List.length_map]
  have hff : fieldsH hs = ns.flatMap (valF hs) := by rw [← hns]; rfl
  rw [hns] at sv3
  obtain ⟨a3, cp3, rfl⟩ := sv3.len
  have x3 : Ext h h3 := ⟨by omega, fun b hb => (k3 b (by omega)).trans (x2.2 b hb)⟩
  have m3 : HMap (fun i => own i ∧ i < h.n) h3 mb hs [] := (m0.mono (fun i hi ho => ⟨ho, hi⟩)).keep (x3.keep []) (by simp)
  (repeat simp only[push_cast,go_sem_proc,↓ite_only,M_block,t3, t0])
  refine M_loop (fun tm h4 n => ∃ (k : Nat) (v : Value), k + n = ns.length ∧ Ext h3 h4 ∧ IFlds h3.n h4 v ((ns.take k).flatMap (valF hs)) ∧ tget tm 22 = .slice a3 ns.length cp3 ∧ tget tm 23 = I ns.length ∧ tget tm 24 = I k ∧ tget tm 5 = v ∧ tget tm 0 = .map (some mb)) ns.length
   ⟨0, _, by omega, Ext.refl _, Row.nil _ _ _ _, (by simp only[zT,Nat.reduceBEq]), (by simp only[zT,Nat.reduceBEq]), (by simp only[zT,Nat.reduceBEq];rfl), (by simp only[zT,Nat.reduceBEq]), ‹_›⟩ ?_
  rintro tm4 h4 n4 R4 ⟨k, v4, hkn, x4, f4, t22, t23, t24, t5, t0⟩ hR4 hE4
  by_cases hlt : k < ns.length
  ·have c1 : decide ((k : Int) < (ns.length : Int)) = true := decide_eq_true (by omega)
   obtain ⟨bn, cpn, rest, hv, hbn1, hbn2, hat⟩ := Row.at (sv3.ext x4) hlt
   cases hv
   have hg := str_get rest hlt
   have m4 := m3.keep (x4.keep []) (by simp)
   obtain ⟨vv, hlk, hval, hvo, _⟩ := HMap.val k_85 m4 (snth ns k) false
   have hlk' : alookup Tryz.prog h4 85 (.map (some mb)) (S (snth ns k)) false = some vv := by simpa using hlk
   have hval3 : SVal h3 vv (valsH hs (snth ns k)) := by
    rcases hval with hv0 | ⟨sl, sv0, hl0⟩
    ·exact .inl hv0
    ·have hb0 : sl.b < h.n := by
      obtain ⟨e0, _⟩ := sv0
      exact (hvo sl.b (by rw [e0]; rfl)).2
     have := x3.1
     exact .inr ⟨sl, sv0.keep (x4.2 sl.b (by omega)).symm, by omega⟩
   obtain ⟨av, cpv, rfl⟩ := hval.len
   have hvl := (hsh (snth ns k)).1
   have htk := flat_take (hs := hs) hlt
   have hle1 := flat_le (hs := hs) ns (k + 1)
   rw [htk, ← hff, List.length_append] at hle1
   have hvfl : (valF hs (snth ns k)).length = (valsH hs (snth ns k)).length := List.length_map _
   (repeat(first|(simp only[push_cast,go_sem_proc,↓ite_only,M_block,t22, t23, t24, t0, c1, hat, hg, hlk'])|(with_reducible refine⟨by omega,?_⟩)))
   refine M_loop (fun tm h5 n => ∃ (j : Nat) (v : Value), j + n = (valsH hs (snth ns k)).length ∧ Ext h3 h5 ∧ IFlds h3.n h5 v ((ns.take k).flatMap (valF hs) ++ (valF hs (snth ns k)).take j) ∧ tget tm 30 = .slice av (valsH hs (snth ns k)).length cpv ∧ tget tm 31 = I (valsH hs (snth ns k)).length ∧ tget tm 32 = I j ∧ tget tm 7 = S (snth ns k) ∧ tget tm 5 = v ∧
     tget tm 22 = .slice (some ⟨bn, 0, none⟩) ns.length cp3 ∧ tget tm 23 = I ns.length ∧ tget tm 24 = I k ∧ tget tm 0 = .map (some mb)) (valsH hs (snth ns k)).length
    ⟨0, v4, by omega, x4, by rw [List.take_zero, List.append_nil]; exact f4, (by simp only[zT,Nat.reduceBEq]), (by simp only[zT,Nat.reduceBEq]), (by simp only[zT,Nat.reduceBEq];rfl), (by simp only[zT,Nat.reduceBEq]), ‹_›, ‹_›, ‹_›, ‹_›, ‹_›⟩ ?_
   rintro tm5 h5 n5 R5 ⟨j, v5, hjn, x5, f5, u30, u31, u32, u7, u5, u22, u23, u24, u0⟩ hR5 hE5
   by_cases hjl : j < (valsH hs (snth ns k)).length
   ·have c2 : decide ((j : Int) < ((valsH hs (snth ns k)).length : Int)) = true := decide_eq_true (by omega)
    obtain ⟨b6, o6, cp6, cs6, hv6, hcp6, hat6, hcl6, hget6⟩ := (hval3.ext x5).at (by omega)
    cases hv6
    have hg6 := hget6 j hjl
    (repeat(first|(simp(disch:=decide)only[push_cast,go_sem_proc,↓ite_only,M_block,u30, u31, u32, u7, u5, c2, hat6, hg6])|(with_reducible refine⟨by omega,?_⟩)))
    intro c6
    generalize hH : Heap.new h5 _ = h6
    have hat7 : h6.at h5.n = some (.cells [S (snth ns k), S (snth (valsH hs (snth ns k)) j)] 107 0 0) := by rw [← hH]; exact at_new_eq _ _
    have n6 : h6.n = h5.n + 1 := by rw [← hH]; rfl
    have x6 : Ext h5 h6 := by rw [← hH]; exact Keep.ext (by repeat (first | exact Keep.refl _ _ | assumption | refine Keep.put ?_ (by first | (left; simp; done) | (right; omega)) _ | refine Keep.new ?_ _))
    have nx5 := x5.1
    have nx4 := x4.1
    obtain ⟨v', h7, e7, f7, n7, hold7, _⟩ := app_ifld (c := c6) (N := w0.heap.size) (x := (snth ns k, snth (valsH hs (snth ns k)) j)) (Row.ext f5 x6) (by omega) (by omega) hat7 (by simp only [List.length_append, List.length_take]; omega)
    rw [e7]
    (repeat simp(disch:=omega)only[push_cast,go_sem_proc,↓ite_only,M_block,u32])
    refine hR5 _ _ (n5 - 1) (by omega) ⟨j + 1, v', by omega, ⟨by omega, fun b hb => (hold7 b (by omega) (Row.off (Row.ext f5 x6) (by omega))).trans ((x6.2 b (by omega)).trans (x5.2 b hb))⟩, ?_, ‹_›, ‹_›, by rw [Int.natCast_add]; exact (by simp only[zT,Nat.reduceBEq];rfl), ‹_›, (by simp only[zT,Nat.reduceBEq]), ‹_›, ‹_›, ‹_›, ‹_›⟩
    rw [valF_nth hjl, ← List.append_assoc]
    exact f7
   ·have c2 : decide ((j : Int) < ((valsH hs (snth ns k)).length : Int)) = false := decide_eq_false (by omega)
    (repeat simp only[push_cast,go_sem_proc,↓ite_only,M_block,u31, u32, c2])
    (with_reducible refine hE5 _ _ _ _ (nomatch ·) ?_)
    (repeat simp(disch:=omega)only[push_cast,go_sem_proc,↓ite_only,M_block,u24])
    have hj : j = (valF hs (snth ns k)).length := by omega
    rw [hj, List.take_length, ← htk] at f5
    exact hR4 _ _ (n4 - 1) (by omega) ⟨k + 1, v5, by omega, x5, f5, ‹_›, ‹_›, by rw [Int.natCast_add]; exact (by simp only[zT,Nat.reduceBEq];rfl), ‹_›, ‹_›⟩
  ·have c1 : decide ((k : Int) < (ns.length : Int)) = false := decide_eq_false (by omega)
   (repeat simp only[push_cast,go_sem_proc,↓ite_only,M_block,t23, t24, c1])
   (with_reducible refine hE4 _ _ _ _ (nomatch ·) ?_)
   (repeat simp only[push_cast,go_sem_proc,↓ite_only,M_block,t5])
   ((with_reducible refine hX _ _ _ (fun j hj => nomatch hj) ?_); simp only[push_cast,go_sem_proc,↓ite_only,M_block,Tryz.results50])
   refine ⟨x3.trans x4, ?_⟩
   rw [hff]
   rw [show k = ns.length by omega, List.take_length] at f4
   exact Row.lower f4 x3.1
 ·have hem : en ∈ ms := (List.mem_filter.1 hen).1
  have hnb : en.born ∉ ps.map (·.born) := by
   have := (List.mem_filter.1 hen).2
   simpa using this
  have hless := filter_less hen
  have hkey := hk2 en hem
  rw [e]
  generalize hH : Heap.put h2 h.n _ = h3
  have r3 : h3.at h.n = some (.miter (some mb) clock (ps.map (·.born) ++ [en.born]) clock) := by rw [← hH]; exact at_put_eq _ _ _
  have hm3 : h3.at mb = some (.map ms clock) := by rw [← hH, at_put_ne _ _ (by omega)]; exact hm2
  have n3 : h3.n = h2.n := by rw [← hH]; rfl
  have x3 : Ext h h3 := by rw [← hH]; exact Keep.ext ((x2.keep []).put (.inr (Nat.le_refl _)) _)
  have sv3 : Strs (h.n + 1) h3 v (ps.map keyB) := sv.keep (by omega) (fun b hb hlo _ => by rw [← hH]; exact at_put_ne _ _ (by omega))
  have hent := aentry_of (b := 0) r3 hm3 M.brn hem
  rw [hkey] at hent ⊢
  obtain ⟨av, cpv, hav⟩ := sv3.len
  subst hav
  (repeat simp only[push_cast,go_sem_proc,↓ite_only,M_block,t3, t11, hent])
  intro c4
  generalize hH4 : Heap.new h3 _ = h4
  have hat4 : h4.at h3.n = some (.cells [S (keyB en)] 9 0 0) := by rw [← hH4]; exact at_new_eq _ _
  have n4 : h4.n = h3.n + 1 := by rw [← hH4]; rfl
  have x4 : Ext h3 h4 := by rw [← hH4]; exact Keep.ext (by repeat (first | exact Keep.refl _ _ | assumption | refine Keep.put ?_ (by first | (left; simp; done) | (right; omega)) _ | refine Keep.new ?_ _))
  obtain ⟨v', h5, e5, sv5, n5, hold5, _⟩ := app_str (c := c4) (N := w0.heap.size) (x := keyB en) (Row.ext sv3 x4) (by omega) (by omega) hat4 (by rw [List.length_map]; omega)
  rw [e5]
  (repeat simp only[push_cast,go_sem_proc,↓ite_only,M_block])
  have hoff : ∀ b, b ≤ h.n → Off b (.slice av (ps.map keyB).length cpv) := fun b hb => Row.off sv3 (by omega)
  refine hR _ _ (ms.filter (fun x => !(ps.map (·.born) ++ [en.born]).contains x.born)).length hless ⟨ps ++ [en], v', by rw [List.map_append]; rfl, ?_, ?_, ?_, ⟨by have := x3.1; omega, fun b hb => (hold5 b (by omega) (hoff b (by omega))).trans ((x4.2 b (by omega)).trans (x3.2 b hb))⟩, by omega, ?_, ?_, (by simp only[zT,Nat.reduceBEq]), ‹_›, ‹_›⟩
  ·rw [List.length_append, List.length_singleton]; omega
  ·intro p hp
   rcases List.mem_append.1 hp with hp | hp
   ·exact hpm p hp
   ·rw [List.mem_singleton.1 hp]; exact hem
  ·rw [List.map_append, List.nodup_append]
   refine ⟨hpd, by simp, ?_⟩
   intro x hx y hy
   obtain rfl : y = en.born := by simpa using hy
   rintro rfl
   exact hnb hx
  ·rw [List.map_append]
   exact (hold5 h.n (by omega) (hoff _ (Nat.le_refl _))).trans ((x4.2 _ (by omega)).trans r3)
  ·rw [List.map_append]
   exact sv5
theorem fieldsNil_ok : ACall Tryz.prog w0 50 [.map none] h (fun v h' => Ext h h' ∧ v = .slice none 0 0) := by
 refine ACall.known fun hKn => ?_
 obtain ⟨hN, hB⟩ := hKn
 refine ACall.run noCount mixed Tryz.func50 rfl (by kernel_rfl) (Nat.le_of_ble_eq_true rfl) fun X hX => ?_
 (repeat simp only[push_cast,go_sem_proc,↓ite_only,M_block])
 generalize hhe : Heap.new h _ = h1
 have n1 : h1.n = h.n + 1 := by rw [← hhe]; rfl
 have x1 : Ext h h1 := by rw [← hhe]; exact Keep.ext (by repeat (first | exact Keep.refl _ _ | assumption | refine Keep.put ?_ (by first | (left; simp; done) | (right; omega)) _ | refine Keep.new ?_ _))
 have r1 : h1.at h.n = some (.miter none 0 [] 0) := by rw [← hhe]; exact at_new_eq _ _
 clear hhe
 refine M_loop (fun tm h2 n => h2 = h1 ∧ tget tm 3 = .slice none 0 0 ∧ tget tm 11 = ptr h.n 0 ∧ tget tm 0 = .map none) 0 ⟨rfl, (by simp only[zT,Nat.reduceBEq]), (by simp only[zT,Nat.reduceBEq]), (by simp only[zT,Nat.reduceBEq])⟩ ?_
 rintro tm h2 n R ⟨rfl, t3, t11, t0⟩ hR hE
 (repeat simp only[push_cast,go_sem_proc,↓ite_only,M_block,t11])
 intro c
 have e : anext w0.heap.size h2 (ptr h.n 0) false c = some (.tuple #[.bool false], h2) := by
  unfold anext
  simp only [r1]
 rw [e]
 (repeat simp only[push_cast,go_sem_proc,↓ite_only,M_block])
 (with_reducible refine hE _ _ _ _ (nomatch ·) ?_)
 (repeat simp only[push_cast,go_sem_proc,↓ite_only,M_block,t3])
 refine callM_of (sort_none _ _) ?_
 rintro u h3 rfl
 (repeat simp only[push_cast,go_sem_proc,↓ite_only,M_block,t3, t0])
 refine M_loop (fun tm h4 n => h4 = h3 ∧ tget tm 23 = I 0 ∧ tget tm 24 = I 0 ∧ tget tm 5 = .slice none 0 0) 0 ⟨rfl, (by simp only[zT,Nat.reduceBEq]), (by simp only[zT,Nat.reduceBEq]), (by simp only[zT,Nat.reduceBEq])⟩ ?_
 rintro tm4 h4 n4 R4 ⟨rfl, t23, t24, t5⟩ hR4 hE4
 (repeat simp only[push_cast,go_sem_proc,↓ite_only,M_block,t23, t24])
 (with_reducible refine hE4 _ _ _ _ (nomatch ·) ?_)
 (repeat simp only[push_cast,go_sem_proc,↓ite_only,M_block,t5])
 ((with_reducible refine hX _ _ _ (fun j hj => nomatch hj) ?_); simp only[push_cast,go_sem_proc,↓ite_only,M_block,Tryz.results50])
 exact x1
end Go.Proofs.YtbjaapiliegegaaGreatDoor.Sy
