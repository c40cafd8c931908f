/- Of the proof of FnNoBody: SeA SeB. -/
import Derived.Test.YtbjaapiliegegaaGreatDoorSdL
set_option linter.unusedVariables false
set_option linter.unusedSimpArgs false
section
namespace Go.Proofs.YtbjaapiliegegaaGreatDoor.Sy
open Go
set_option maxRecDepth 100000
variable {w0 : World} {h : Heap}
abbrev Hdr := List (Str × List Str)
def getH : Hdr → Str → Option (List Str)
 | [], _ => none
 | p :: t, k => match decide (p.1 = k) with | true => some p.2 | false => getH t k
def setH : Hdr → Str → List Str → Hdr
 | [], k, ss => [(k, ss)]
 | p :: t, k, ss => match decide (p.1 = k) with | true => (p.1, ss) :: t | false => p :: setH t k ss
def delH : Hdr → Str → Hdr
 | [], _ => []
 | p :: t, k => match decide (p.1 = k) with | true => t | false => p :: delH t k
def valsH (hs : Hdr) (k : Str) : List Str := (getH hs k).getD []
def addH (hs : Hdr) (k x : Str) : Hdr := setH hs k (valsH hs k ++ [x])
structure Slot where
 b : Nat
 o : Nat
 cp : Nat
def Slot.disj (x y : Slot) : Prop := x.b ≠ y.b ∨ x.o + x.cp ≤ y.o ∨ y.o + y.cp ≤ x.o
theorem Slot.disj_symm {x y : Slot} (d : x.disj y) : y.disj x := by unfold Slot.disj at d ⊢; omega
def SVat (h : Heap) (s : Slot) (v : Value) (ss : List Str) : Prop :=
 v = .slice (some ⟨s.b, s.o, none⟩) ss.length s.cp ∧ ss.length ≤ s.cp ∧ ss ≠ [] ∧ ∃ cs, h.at s.b = some (.cells cs 9 0 0) ∧ s.o + s.cp ≤ cs.length ∧ (cs.drop s.o).take ss.length = ss.map S
theorem SVat.keep {h h' : Heap} {s : Slot} {v : Value} {ss : List Str} (d : SVat h s v ss) (e : h'.at s.b = h.at s.b) : SVat h' s v ss := by
 obtain ⟨h1, h2, h3, cs, h4, h5, h6⟩ := d
 exact ⟨h1, h2, h3, cs, e.trans h4, h5, h6⟩
theorem SVat.other {s : Slot} {v : Value} {ss : List Str} {b o : Nat} {cs vs : List Value} (d : SVat h s v ss) (hat : h.at b = some (.cells cs 9 0 0)) (hl : o + vs.length ≤ cs.length) (hd : s.b ≠ b ∨ s.o + s.cp ≤ o ∨ o + vs.length ≤ s.o) :
  SVat (h.put b (.cells (splice cs o vs) 9 0 0)) s v ss := by
 by_cases hb : s.b = b
 ·obtain ⟨h1, h2, h3, cs', h4, h5, h6⟩ := d
  rw [hb] at h4
  obtain rfl : cs' = cs := by rw [hat] at h4; cases h4; rfl
  have hsl : (splice cs' o vs).length = cs'.length := by simp only [splice, List.length_append, List.length_take, List.length_drop]; omega
  refine ⟨h1, h2, h3, splice cs' o vs, by rw [hb]; exact at_put_eq _ _ _, by rw [hsl]; exact h5, ?_⟩
  rw [← h6]
  rcases hd with hd | hd | hd
  ·exact absurd hb hd
  ·unfold splice
   rw [List.append_assoc, List.drop_append_of_le_length (by rw [List.length_take]; omega), List.take_append_of_le_length (by rw [List.length_drop, List.length_take]; omega), List.drop_take, List.take_take, Nat.min_eq_left (by omega)]
  ·unfold splice
   have hl2 : (cs'.take o ++ vs).length = o + vs.length := by rw [List.length_append, List.length_take]; omega
   rw [List.drop_append, List.drop_eq_nil_of_le (by omega), List.nil_append, hl2, List.drop_drop, show o + vs.length + (s.o - (o + vs.length)) = s.o by omega]
 ·exact d.keep (at_put_ne _ _ hb)
structure Ent where
 key : Str
 vals : List Str
 slot : Slot
def HMrel (h : Heap) : List Ent → List MapEntry → Prop
 | [], [] => True
 | e :: es, m :: ms => m.key = S e.key ∧ SVat h e.slot m.val e.vals ∧ HMrel h es ms
 | _, _ => False
def getE : List Ent → Str → Option Ent
 | [], _ => none
 | e :: t, k => match decide (e.key = k) with | true => some e | false => getE t k
def setE : List Ent → Str → Ent → List Ent
 | [], _, x => [x]
 | e :: t, k, x => match decide (e.key = k) with | true => x :: t | false => e :: setE t k x
def delE : List Ent → Str → List Ent
 | [], _ => []
 | e :: t, k => match decide (e.key = k) with | true => t | false => e :: delE t k
def ofE (es : List Ent) : Hdr := es.map fun e => (e.key, e.vals)
theorem get_ofE : ∀ (es : List Ent) (k : Str), getH (ofE es) k = (getE es k).map (·.vals)
 | [], _ => rfl
 | e :: t, k => by
  show getH ((e.key, e.vals) :: ofE t) k = _
  unfold getH getE
  cases decide (e.key = k) with
  | true => rfl
  | false => exact get_ofE t k
theorem set_ofE : ∀ (es : List Ent) (k : Str) (x : Ent), x.key = k → ofE (setE es k x) = setH (ofE es) k x.vals
 | [], _, x, hx => by simp [setE, setH, ofE, hx]
 | e :: t, k, x, hx => by
  show _ = setH ((e.key, e.vals) :: ofE t) k x.vals
  unfold setH setE
  cases hd : decide (e.key = k) with
  | true => simp [ofE, hx, of_decide_eq_true hd]
  | false => exact congrArg _ (set_ofE t k x hx)
theorem del_ofE : ∀ (es : List Ent) (k : Str), ofE (delE es k) = delH (ofE es) k
 | [], _ => rfl
 | e :: t, k => by
  show _ = delH ((e.key, e.vals) :: ofE t) k
  unfold delH delE
  cases hd : decide (e.key = k) with
  | true => rfl
  | false => exact congrArg _ (del_ofE t k)
theorem keyIs_eq {m : MapEntry} {a k : Str} (e : m.key = S a) : keyIs k m = some (decide (k = a)) := by
 unfold keyIs
 rw [e]
 rfl
theorem rel_keep {h h' : Heap} : ∀ {es : List Ent} {ms : List MapEntry}, HMrel h es ms → (∀ e ∈ es, ∀ v, SVat h e.slot v e.vals → SVat h' e.slot v e.vals) → HMrel h' es ms
 | [], [], _, _ => trivial
 | e :: es, m :: ms, hr, hk => ⟨hr.1, hk e (by simp) _ hr.2.1, rel_keep hr.2.2 (fun e he => hk e (by simp [he]))⟩
 | [], _ :: _, hr, _ => hr.elim
 | _ :: _, [], hr, _ => hr.elim
theorem rel_find : ∀ {es : List Ent} {ms : List MapEntry} (k : Str) (i : Nat), HMrel h es ms →
  (getE es k = none ∧ findStr k ms i = some none) ∨ ∃ e v j, getE es k = some e ∧ e ∈ es ∧ e.key = k ∧ findStr k ms i = some (some (i + j, v)) ∧ SVat h e.slot v e.vals
 | [], [], _, _, _ => .inl ⟨rfl, rfl⟩
 | e :: es, m :: ms, k, i, hr => by
  unfold getE findStr
  rw [keyIs_eq (k := k) hr.1]
  by_cases hk : e.key = k
  ·rw [decide_eq_true hk, decide_eq_true hk.symm]
   exact .inr ⟨e, m.val, 0, rfl, by simp, hk, rfl, hr.2.1⟩
  ·rw [decide_eq_false hk, decide_eq_false (fun h => hk h.symm)]
   rcases rel_find k (i + 1) hr.2.2 with h1 | ⟨e', v, j, h1, h2, h2', h3, h4⟩
   ·exact .inl h1
   ·exact .inr ⟨e', v, j + 1, h1, by simp [h2], h2', by rw [h3, Nat.add_assoc, Nat.add_comm 1 j], h4⟩
 | [], _ :: _, _, _, hr => hr.elim
 | _ :: _, [], _, _, hr => hr.elim
theorem rel_set {h h' : Heap} (x : Ent) (v' : Value) (c : Nat) : ∀ {es : List Ent} {ms : List MapEntry} (k : Str) (i : Nat), x.key = k → HMrel h es ms → (es.map (·.key)).Nodup → SVat h' x.slot v' x.vals → (∀ e ∈ es, e.key ≠ k → ∀ v, SVat h e.slot v e.vals → SVat h' e.slot v e.vals) →
  (findStr k ms i = some none ∧ HMrel h' (setE es k x) (ms ++ [⟨S k, v', c⟩])) ∨ ∃ j w, findStr k ms i = some (some (i + j, w)) ∧ HMrel h' (setE es k x) (ms.modify j fun e => { e with key := S k, val := v' })
 | [], [], k, i, hx, _, _, hv, _ => .inl ⟨rfl, by rw [← hx]; exact ⟨rfl, hv, trivial⟩⟩
 | e :: es, m :: ms, k, i, hx, hr, hn, hv, hk => by
  unfold setE findStr
  rw [keyIs_eq (k := k) hr.1]
  by_cases he : e.key = k
  ·rw [decide_eq_true he, decide_eq_true he.symm]
   refine .inr ⟨0, m.val, rfl, ?_, hv, ?_⟩
   ·show S k = S x.key
    rw [hx]
   ·refine rel_keep hr.2.2 (fun e' he' => hk e' (by simp [he']) ?_)
    intro e2
    have hnd := (List.nodup_cons.1 hn).1
    apply hnd
    show e.key ∈ _
    rw [he, ← e2]
    exact List.mem_map_of_mem (f := fun x : Ent => x.key) he'
  ·rw [decide_eq_false he, decide_eq_false (fun h => he h.symm)]
   rcases rel_set x v' c k (i + 1) hx hr.2.2 (List.nodup_cons.1 hn).2 hv (fun e' he' => hk e' (by simp [he'])) with ⟨h1, h2⟩ | ⟨j, w, h1, h2⟩
   ·exact .inl ⟨h1, hr.1, hk e (by simp) he _ hr.2.1, h2⟩
   ·exact .inr ⟨j + 1, w, by rw [h1, Nat.add_assoc, Nat.add_comm 1 j], hr.1, hk e (by simp) he _ hr.2.1, h2⟩
 | [], _ :: _, _, _, _, hr, _, _, _ => hr.elim
 | _ :: _, [], _, _, _, hr, _, _, _ => hr.elim
theorem rel_del : ∀ {es : List Ent} {ms : List MapEntry} (k : Str) (i : Nat), HMrel h es ms →
  (findStr k ms i = some none ∧ HMrel h (delE es k) ms) ∨ ∃ j w, findStr k ms i = some (some (i + j, w)) ∧ HMrel h (delE es k) (ms.eraseIdx j)
 | [], [], _, _, _ => .inl ⟨rfl, trivial⟩
 | e :: es, m :: ms, k, i, hr => by
  unfold delE findStr
  rw [keyIs_eq (k := k) hr.1]
  by_cases he : e.key = k
  ·rw [decide_eq_true he, decide_eq_true he.symm]
   exact .inr ⟨0, m.val, rfl, hr.2.2⟩
  ·rw [decide_eq_false he, decide_eq_false (fun h => he h.symm)]
   rcases rel_del k (i + 1) hr.2.2 with ⟨h1, h2⟩ | ⟨j, w, h1, h2⟩
   ·exact .inl ⟨h1, hr.1, hr.2.1, h2⟩
   ·exact .inr ⟨j + 1, w, by rw [h1, Nat.add_assoc, Nat.add_comm 1 j], hr.1, hr.2.1, h2⟩
 | [], _ :: _, _, _, hr => hr.elim
 | _ :: _, [], _, _, hr => hr.elim
def Born (ms : List MapEntry) (clock : Nat) : Prop := (∀ m ∈ ms, m.born < clock) ∧ (ms.map (·.born)).Nodup
theorem Born.add {ms : List MapEntry} {clock : Nat} (b : Born ms clock) (k v : Value) : Born (ms ++ [⟨k, v, clock⟩]) (clock + 1) := by
 refine ⟨fun m hm => ?_, ?_⟩
 ·rcases List.mem_append.1 hm with hm | hm
  ·exact Nat.lt_succ_of_lt (b.1 m hm)
  ·rw [List.mem_singleton.1 hm]; exact Nat.lt_succ_self _
 ·rw [List.map_append, List.nodup_append]
  refine ⟨b.2, by simp, fun x hx y hy => ?_⟩
  obtain ⟨m, hm, rfl⟩ := List.mem_map.1 hx
  obtain rfl : y = clock := by simpa using hy
  exact Nat.ne_of_lt (b.1 m hm)
theorem born_modify {f : MapEntry → MapEntry} (hf : ∀ m, (f m).born = m.born) : ∀ (ms : List MapEntry) (j : Nat), (ms.modify j f).map (·.born) = ms.map (·.born)
 | [], j => by cases j <;> rfl
 | m :: ms, 0 => by simp [hf]
 | m :: ms, j + 1 => by simp [born_modify hf ms j]
theorem Born.of_map {ms ms' : List MapEntry} {clock : Nat} (b : Born ms clock) (e : (ms'.map (·.born)) = ms.map (·.born)) : Born ms' clock := by
 refine ⟨fun m hm => ?_, by rw [e]; exact b.2⟩
 have : m.born ∈ ms'.map (·.born) := List.mem_map.2 ⟨m, hm, rfl⟩
 rw [e] at this
 obtain ⟨m', h1, h2⟩ := List.mem_map.1 this
 exact h2 ▸ b.1 m' h1
theorem Born.sub {ms ms' : List MapEntry} {clock : Nat} (b : Born ms clock) (s : ms'.Sublist ms) : Born ms' clock :=
 ⟨fun m hm => b.1 m (s.mem hm), List.Nodup.sublist (s.map _) b.2⟩
structure HM (own : Nat → Prop) (h : Heap) (mb : Nat) (hs : Hdr) (xs : List Slot) (es : List Ent) (ms : List MapEntry) (clock : Nat) : Prop where
 hs' : hs = ofE es
 at' : h.at mb = some (.map ms clock)
 rel : HMrel h es ms
 dis : (es.map (·.slot) ++ xs).Pairwise Slot.disj
 nod : (es.map (·.key)).Nodup
 omb : own mb
 lmb : mb < h.n
 oes : ∀ e ∈ es, own e.slot.b ∧ e.slot.b < h.n
 oxs : ∀ x ∈ xs, own x.b ∧ x.b < h.n
 brn : Born ms clock
def HMap (own : Nat → Prop) (h : Heap) (mb : Nat) (hs : Hdr) (xs : List Slot) : Prop := ∃ es ms clock, HM own h mb hs xs es ms clock
theorem HMap.keep {own : Nat → Prop} {h h' : Heap} {mb : Nat} {hs : Hdr} {xs : List Slot} {X : List Nat} (m : HMap own h mb hs xs) (k : Keep X h h') (hX : ∀ i ∈ X, ¬own i) : HMap own h' mb hs xs := by
 obtain ⟨es, ms, clock, m⟩ := m
 exact ⟨es, ms, clock, m.hs', (k.2 _ m.lmb (fun hi => hX _ hi m.omb)).trans m.at', rel_keep m.rel (fun e he v hv => hv.keep (k.2 _ (m.oes e he).2 (fun hi => hX _ hi (m.oes e he).1))), m.dis, m.nod, m.omb, Nat.lt_of_lt_of_le m.lmb k.1,
  fun e he => ⟨(m.oes e he).1, Nat.lt_of_lt_of_le (m.oes e he).2 k.1⟩, fun x hx => ⟨(m.oxs x hx).1, Nat.lt_of_lt_of_le (m.oxs x hx).2 k.1⟩, m.brn⟩
theorem HMap.mono {own own' : Nat → Prop} {mb : Nat} {hs : Hdr} {xs : List Slot} (m : HMap own h mb hs xs) (k : ∀ i, i < h.n → own i → own' i) : HMap own' h mb hs xs := by
 obtain ⟨es, ms, clock, m⟩ := m
 exact ⟨es, ms, clock, m.hs', m.at', m.rel, m.dis, m.nod, k _ m.lmb m.omb, m.lmb, fun e he => ⟨k _ (m.oes e he).2 (m.oes e he).1, (m.oes e he).2⟩, fun x hx => ⟨k _ (m.oxs x hx).2 (m.oxs x hx).1, (m.oxs x hx).2⟩, m.brn⟩
theorem get_mem : ∀ {es : List Ent} {k : Str} {e : Ent}, getE es k = some e → e ∈ es ∧ e.key = k
 | [], _, _, h => by cases h
 | a :: t, k, e, h => by
  unfold getE at h
  cases hd : decide (a.key = k) with
  | true => rw [hd] at h; cases h; exact ⟨by simp, of_decide_eq_true hd⟩
  | false => rw [hd] at h; obtain ⟨h1, h2⟩ := get_mem h; exact ⟨by simp [h1], h2⟩
theorem mem_setE : ∀ {es : List Ent} {k : Str} {x e : Ent}, e ∈ setE es k x → e = x ∨ (e ∈ es ∧ True)
 | [], _, x, e, h => by simp [setE] at h; exact .inl h
 | a :: t, k, x, e, h => by
  unfold setE at h
  cases hd : decide (a.key = k) with
  | true => rw [hd] at h; rcases List.mem_cons.1 h with h | h; exact .inl h; exact .inr ⟨by simp [h], trivial⟩
  | false =>
   rw [hd] at h
   rcases List.mem_cons.1 h with h | h
   ·exact .inr ⟨by simp [h], trivial⟩
   ·rcases mem_setE h with h | h
    ·exact .inl h
    ·exact .inr ⟨by simp [h.1], trivial⟩
theorem keys_setE : ∀ {es : List Ent} {k : Str} {x : Ent}, x.key = k → (es.map (·.key)).Nodup → ((setE es k x).map (·.key)).Nodup ∧ ∀ a, a ∈ (setE es k x).map (·.key) → a = k ∨ a ∈ es.map (·.key)
 | [], k, x, hx, _ => ⟨by simp [setE], fun a ha => by simp [setE] at ha; left; rw [ha, hx]⟩
 | e :: t, k, x, hx, hn => by
  unfold setE
  have hn2 := List.nodup_cons.1 hn
  cases hd : decide (e.key = k) with
  | true =>
   have he := of_decide_eq_true hd
   refine ⟨?_, fun a ha => ?_⟩
   ·show (x.key :: t.map (·.key)).Nodup
    rw [hx, ← he]
    exact hn
   ·rcases List.mem_cons.1 ha with ha | ha
    ·left; rw [ha]; exact hx
    ·right; exact List.mem_cons_of_mem _ ha
  | false =>
   have he := of_decide_eq_false hd
   obtain ⟨h1, h2⟩ := keys_setE (x := x) hx hn2.2
   refine ⟨List.nodup_cons.2 ⟨fun hm => ?_, h1⟩, fun a ha => ?_⟩
   ·rcases h2 _ hm with h | h
    ·exact he h
    ·exact hn2.1 h
   ·rcases List.mem_cons.1 ha with ha | ha
    ·right; rw [ha]; exact List.mem_cons_self
    ·rcases h2 _ ha with h | h
     ·exact .inl h
     ·exact .inr (List.mem_cons_of_mem _ h)
theorem dis_set {xs : List Slot} {x : Ent} {k : Str} : ∀ {es : List Ent}, (es.map (·.slot) ++ xs).Pairwise Slot.disj → (es.map (·.key)).Nodup → (∀ e ∈ es, e.key ≠ k → x.slot.disj e.slot) → (∀ y ∈ xs, x.slot.disj y) → ((setE es k x).map (·.slot) ++ xs).Pairwise Slot.disj
 | [], hd, _, _, hxs => by
  show (x.slot :: xs).Pairwise Slot.disj
  exact List.pairwise_cons.2 ⟨hxs, hd⟩
 | e :: t, hd, hn, he, hxs => by
  have hd' : (e.slot :: (t.map (·.slot) ++ xs)).Pairwise Slot.disj := hd
  obtain ⟨hd1, hd2⟩ := List.pairwise_cons.1 hd'
  have hn2 := List.nodup_cons.1 hn
  unfold setE
  cases hdc : decide (e.key = k) with
  | true =>
   have hek := of_decide_eq_true hdc
   refine List.pairwise_cons.2 ⟨fun y hy => ?_, hd2⟩
   rcases List.mem_append.1 hy with hy | hy
   ·obtain ⟨e', he', rfl⟩ := List.mem_map.1 hy
    refine he e' (by simp [he']) (fun e2 => hn2.1 ?_)
    show e.key ∈ _
    rw [hek, ← e2]
    exact List.mem_map_of_mem (f := fun x : Ent => x.key) he'
   ·exact hxs y hy
  | false =>
   have hek := of_decide_eq_false hdc
   refine List.pairwise_cons.2 ⟨fun y hy => ?_, dis_set hd2 hn2.2 (fun e' he' => he e' (by simp [he'])) hxs⟩
   rcases List.mem_append.1 hy with hy | hy
   ·obtain ⟨e', he', rfl⟩ := List.mem_map.1 hy
    rcases mem_setE he' with rfl | ⟨he', _⟩
    ·exact Slot.disj_symm (he e (by simp) hek)
    ·exact hd1 _ (List.mem_append.2 (.inl (List.mem_map_of_mem (f := fun x : Ent => x.slot) he')))
   ·exact hd1 y (List.mem_append.2 (.inr hy))
end Go.Proofs.YtbjaapiliegegaaGreatDoor.Sy
end
section
namespace Go.Proofs.YtbjaapiliegegaaGreatDoor.Sy
open Go
set_option maxRecDepth 100000
variable {w0 : World} {h : Heap}
theorem HMap.lookup {own : Nat → Prop} {mb : Nat} {hs : Hdr} {xs : List Slot} {t : TypeId} (ht : strMap Tryz.prog t = some 88) (m : HMap own h mb hs xs) (k : Str) (ok : Bool) :
  (getH hs k = none ∧ alookup Tryz.prog h t (.map (some mb)) (S k) ok = some (if ok then .tuple #[.slice none 0 0, .bool false] else .slice none 0 0)) ∨
  ∃ ss s v, getH hs k = some ss ∧ alookup Tryz.prog h t (.map (some mb)) (S k) ok = some (if ok then .tuple #[v, .bool true] else v) ∧ SVat h s v ss ∧ own s.b ∧ s.b < h.n := by
 obtain ⟨es, ms, clock, m⟩ := m
 have hE : entriesOf h (some mb) = some ms := by simp only [entriesOf, m.at']
 have hz : zeroT Tryz.prog 88 = some (.slice none 0 0) := z_88
 rw [m.hs', get_ofE]
 rcases rel_find k 0 m.rel with ⟨h1, h2⟩ | ⟨e, v, j, h1, h2, h3, h4, h5⟩
 ·left
  rw [h1]
  refine ⟨rfl, ?_⟩
  unfold alookup
  rw [ht]
  simp only [hE]
  rw [show bytes ⟨k.toArray⟩ = k from rfl, h2]
  simp only [hz]
 ·right
  rw [h1]
  refine ⟨e.vals, e.slot, v, rfl, ?_, h5, (m.oes e h2).1, (m.oes e h2).2⟩
  unfold alookup
  rw [ht]
  simp only [hE]
  rw [show bytes ⟨k.toArray⟩ = k from rfl, h4]
theorem HM.set {own : Nat → Prop} {h1 : Heap} {mb clock : Nat} {hs : Hdr} {xs xs' : List Slot} {es : List Ent} {ms : List MapEntry} {t : TypeId} {N : Nat} {v' : Value} (ht : strMap Tryz.prog t = some 88) (m : HM own h mb hs xs es ms clock) (k : Str) (x : Ent) (hx : x.key = k) (hN : N ≤ mb)
  (hmb : h1.at mb = h.at mb) (hn : h.n ≤ h1.n) (hv : SVat h1 x.slot v' x.vals) (hk : ∀ e ∈ es, e.key ≠ k → ∀ v, SVat h e.slot v e.vals → SVat h1 e.slot v e.vals)
  (hd : (es.map (·.slot) ++ xs').Pairwise Slot.disj) (hd1 : ∀ e ∈ es, e.key ≠ k → x.slot.disj e.slot) (hd2 : ∀ y ∈ xs', x.slot.disj y) (hox : own x.slot.b ∧ x.slot.b < h1.n) (hoxs : ∀ y ∈ xs', own y.b ∧ y.b < h1.n) (hne : x.slot.b ≠ mb) (hnes : ∀ e ∈ es, e.slot.b ≠ mb) :
  ∃ o, aupdate N Tryz.prog h1 t (.map (some mb)) (S k) v' = some (h1.put mb o) ∧ HMap own (h1.put mb o) mb (setH hs k x.vals) xs' := by
 have hat : h1.at mb = some (.map ms clock) := hmb.trans m.at'
 have hsk : ∀ (o : AO) (b : Nat), b ≠ mb → (h1.put mb o).at b = h1.at b := fun o b hb => at_put_ne _ _ hb
 have hfin : ∀ (o : AO) (ms' : List MapEntry) (c' : Nat), o = .map ms' c' → Born ms' c' → HMrel h1 (setE es k x) ms' → HMap own (h1.put mb o) mb (setH hs k x.vals) xs' := by
  rintro o ms' c' rfl hbo hr
  refine ⟨setE es k x, ms', c', by rw [m.hs', set_ofE _ _ _ hx], at_put_eq _ _ _, rel_keep hr (fun e he v hv2 => hv2.keep (hsk _ _ ?_)), dis_set hd m.nod hd1 hd2, (keys_setE hx m.nod).1, m.omb, Nat.lt_of_lt_of_le m.lmb hn, fun e he => ?_, fun y hy => ?_, hbo⟩
  ·rcases mem_setE he with rfl | ⟨he, _⟩
   ·exact hne
   ·exact hnes e he
  ·rcases mem_setE he with rfl | ⟨he, _⟩
   ·exact hox
   ·exact ⟨(m.oes e he).1, Nat.lt_of_lt_of_le (m.oes e he).2 hn⟩
  ·exact hoxs y hy
 rcases rel_set x v' clock k 0 hx m.rel m.nod hv hk with ⟨e1, e2⟩ | ⟨j, w, e1, e2⟩
 ·refine ⟨_, ?_, hfin _ _ (clock + 1) rfl (m.brn.add _ _) e2⟩
  unfold aupdate
  rw [ht]
  simp only [hat]
  rw [if_pos hN, show bytes ⟨k.toArray⟩ = k from rfl, e1]
 ·rw [Nat.zero_add] at e1
  refine ⟨_, ?_, hfin _ _ clock rfl (m.brn.of_map (born_modify (f := fun e => { e with key := S k, val := v' }) (fun _ => rfl) _ _)) e2⟩
  unfold aupdate
  rw [ht]
  simp only [hat]
  rw [if_pos hN, show bytes ⟨k.toArray⟩ = k from rfl, e1]
def StrBlk (h : Heap) (x : Slot) : Prop := ∃ cs, h.at x.b = some (.cells cs 9 0 0) ∧ x.o + x.cp ≤ cs.length
theorem slots_ne {own : Nat → Prop} {mb clock : Nat} {hs : Hdr} {xs : List Slot} {es : List Ent} {ms : List MapEntry} (m : HM own h mb hs xs es ms clock) : ∀ e ∈ es, e.slot.b ≠ mb := by
 intro e he hb
 have hr := m.rel
 have key : ∀ {es : List Ent} {ms : List MapEntry}, HMrel h es ms → ∀ e ∈ es, ∃ v, SVat h e.slot v e.vals := by
  intro es
  induction es with
  | nil => intro ms _ e he; cases he
  | cons a t ih =>
   intro ms hr e he
   cases ms with
   | nil => exact hr.elim
   | cons b t' =>
    rcases List.mem_cons.1 he with rfl | he
    ·exact ⟨_, hr.2.1⟩
    ·exact ih hr.2.2 e he
 obtain ⟨v, _, _, _, cs, h4, _⟩ := key hr e he
 rw [hb, m.at'] at h4
 cases h4
theorem addH_none {hs : Hdr} {k x : Str} (e : getH hs k = none) : addH hs k x = setH hs k [x] := by unfold addH valsH; rw [e]; rfl
theorem addH_some {hs : Hdr} {k x : Str} {ss : List Str} (e : getH hs k = some ss) : addH hs k x = setH hs k (ss ++ [x]) := by unfold addH valsH; rw [e]; rfl
theorem HMap.take {own : Nat → Prop} {mb sb o n : Nat} {hs : Hdr} {t : TypeId} {N : Nat} {cs : List Value} (ht : strMap Tryz.prog t = some 88) (m : HMap own h mb hs [⟨sb, o, n + 1⟩]) (hat : h.at sb = some (.cells cs 9 0 0)) (hl : o + (n + 1) ≤ cs.length) (k val : Str) (hg : getH hs k = none) (hN : N ≤ mb) :
  ∃ ob, aupdate N Tryz.prog (h.put sb (.cells (splice cs o [S val]) 9 0 0)) t (.map (some mb)) (S k) (.slice (some ⟨sb, o, none⟩) 1 1) = some ((h.put sb (.cells (splice cs o [S val]) 9 0 0)).put mb ob) ∧
   HMap own ((h.put sb (.cells (splice cs o [S val]) 9 0 0)).put mb ob) mb (addH hs k val) [⟨sb, o + 1, n⟩] ∧ sb ≠ mb ∧ (splice cs o [S val]).length = cs.length := by
 obtain ⟨es, ms, clock, m⟩ := m
 have hsm : sb ≠ mb := fun e => by rw [e, m.at'] at hat; cases hat
 have hsl : (splice cs o [S val]).length = cs.length := by simp only [splice, List.length_append, List.length_take, List.length_drop, List.length_cons, List.length_nil]; omega
 have hdis := List.pairwise_append.1 m.dis
 have hdx : ∀ e ∈ es, e.slot.disj ⟨sb, o, n + 1⟩ := fun e he => hdis.2.2 _ (List.mem_map_of_mem (f := fun x : Ent => x.slot) he) _ (by simp)
 have hg2 : (getE es k).map (·.vals) = none := by rw [← get_ofE, ← m.hs']; exact hg
 have hN' := (HM.set (h1 := h.put sb (.cells (splice cs o [S val]) 9 0 0)) (xs' := [⟨sb, o + 1, n⟩]) (N := N) (v' := .slice (some ⟨sb, o, none⟩) 1 1) ht m k ⟨k, [val], ⟨sb, o, 1⟩⟩ rfl hN (at_put_ne _ _ (Ne.symm hsm)) (Nat.le_refl _))
 have p1 : SVat (h.put sb (.cells (splice cs o [S val]) 9 0 0)) ⟨sb, o, 1⟩ (.slice (some ⟨sb, o, none⟩) 1 1) [val] := by
  refine ⟨rfl, Nat.le_refl _, by simp, _, at_put_eq _ _ _, ?_, ?_⟩
  ·rw [hsl]; show o + 1 ≤ cs.length; omega
  ·show ((splice cs o [S val]).drop o).take 1 = [S val]
   unfold splice
   rw [List.append_assoc, List.drop_left' (by rw [List.length_take]; omega)]
   rfl
 have p2 : ∀ e ∈ es, e.key ≠ k → ∀ v, SVat h e.slot v e.vals → SVat (h.put sb (.cells (splice cs o [S val]) 9 0 0)) e.slot v e.vals := by
  intro e he _ v hv
  refine hv.other hat (by show o + 1 ≤ cs.length; omega) ?_
  have := hdx e he
  unfold Slot.disj at this
  simp only [List.length_cons, List.length_nil] at this ⊢
  omega
 have p3 : (es.map (·.slot) ++ [(⟨sb, o + 1, n⟩ : Slot)]).Pairwise Slot.disj := by
  refine List.pairwise_append.2 ⟨hdis.1, by simp, ?_⟩
  intro a ha b hb
  obtain ⟨e, he, rfl⟩ := List.mem_map.1 ha
  have := hdx e he
  simp at hb
  subst hb
  unfold Slot.disj at this ⊢
  simp only [] at this ⊢
  omega
 have p4 : ∀ e ∈ es, e.key ≠ k → (⟨sb, o, 1⟩ : Slot).disj e.slot := by
  intro e he _
  have := hdx e he
  unfold Slot.disj at this ⊢
  simp only [] at this ⊢
  omega
 have p5 : ∀ y ∈ [(⟨sb, o + 1, n⟩ : Slot)], (⟨sb, o, 1⟩ : Slot).disj y := by
  intro y hy
  simp at hy
  subst hy
  unfold Slot.disj
  simp only []
  omega
 have p6 : ∀ y ∈ [(⟨sb, o + 1, n⟩ : Slot)], own y.b ∧ y.b < h.n := by
  intro y hy
  simp at hy
  subst hy
  exact m.oxs ⟨sb, o, n + 1⟩ (by simp)
 obtain ⟨ob, h1, h2⟩ := hN' p1 p2 p3 p4 p5 (m.oxs ⟨sb, o, n + 1⟩ (by simp)) p6 hsm (slots_ne m)
 exact ⟨ob, h1, by rw [addH_none hg]; exact h2, hsm, hsl⟩
theorem app_sv {s : Slot} {v : Value} {ss : List Str} {c bN : Nat} {val : Str} {N : Nat} (d : SVat h s v ss ∨ (v = .slice none 0 0 ∧ ss = [])) (hN : v = .slice none 0 0 ∨ N ≤ s.b) (hat : h.at bN = some (.cells [S val] 9 0 0)) (hbig : ss.length + 1 ≤ 2 ^ 32) :
  ∃ v' h' s', aappend N Tryz.prog h #[88, 88] v (.slice (some ⟨bN, 0, none⟩) 1 1) c = some (v', h') ∧ SVat h' s' v' (ss ++ [val]) ∧ h.n ≤ h'.n ∧
   ((s' = s ∧ ss ≠ [] ∧ ss.length + 1 ≤ s.cp ∧ ∃ cs, h.at s.b = some (.cells cs 9 0 0) ∧ s.o + s.cp ≤ cs.length ∧ h' = h.put s.b (.cells (splice cs (s.o + ss.length) [S val]) 9 0 0)) ∨ (s'.b = h.n ∧ s'.o = 0 ∧ Ext h h' ∧ s'.b < h'.n)) := by
 have hx : tailOf h (.slice 9) 1 (.string ⟨#[]⟩) (.slice (some ⟨bN, 0, none⟩) 1 1) = some (1, [S val]) := by
  simp only [tailOf, lenOf, firstN, loadN_eq, hat, loadC_some]; rw [only_pos (by simp)]; rfl
 have e0 : ∀ (a : Option Addr) (n cp : Nat), aappend N Tryz.prog h #[88, 88] (.slice a n cp) (.slice (some ⟨bN, 0, none⟩) 1 1) c =
   if n + 1 ≤ cp then
    match putAt N h a (n * 1) [S val] with
    | some h' => some (.slice a (n + 1) cp, h')
    | none => none
   else if n + 1 ≤ 2 ^ 32 then
    match firstN h 1 n (.slice a n cp) with
    | some old => if old.length = n * 1 then some (.slice (some ⟨h.n, 0, none⟩) (n + 1) (room (n + 1) c), h.new (.cells (old ++ [S val] ++ zeros [Value.string ⟨#[]⟩] (room (n + 1) c - (n + 1))) 9 0 0)) else none
    | none => none
   else none := by
  intro a n cp
  unfold aappend
  simp only [List.getElem?_toArray, List.getElem?_cons_zero, List.getElem?_cons_succ, Tryz.underlying88, s_9, b_9, z_9, hx]
  rfl
 have newc : ∀ (a : Option Addr) (n cp : Nat) (old : List Value), n = ss.length → old = ss.map S → ¬n + 1 ≤ cp → firstN h 1 n (.slice a n cp) = some old →
   ∃ v' h' s', aappend N Tryz.prog h #[88, 88] (.slice a n cp) (.slice (some ⟨bN, 0, none⟩) 1 1) c = some (v', h') ∧ SVat h' s' v' (ss ++ [val]) ∧ h.n ≤ h'.n ∧ (s'.b = h.n ∧ s'.o = 0 ∧ Ext h h' ∧ s'.b < h'.n) := by
  intro a n cp old hn ho hc hf
  have hrm := room_ge (n + 1) c
  rw [e0, if_neg hc, if_pos (by omega), hf]
  simp only []
  rw [if_pos (by rw [ho, List.length_map]; omega)]
  refine ⟨_, _, ⟨h.n, 0, room (n + 1) c⟩, rfl, ⟨?_, ?_, by simp, _, at_new_eq _ _, ?_, ?_⟩, Nat.le_succ _, rfl, rfl, (Ext.refl _).new _, Nat.lt_succ_self _⟩
  ·rw [List.length_append, hn]; rfl
  ·rw [List.length_append]; show ss.length + 1 ≤ room (n + 1) c; omega
  ·show 0 + room (n + 1) c ≤ _
   rw [zeros_one]; simp only [List.length_append, List.length_replicate, ho, List.length_map, List.length_cons, List.length_nil]; omega
  ·rw [List.drop_zero, List.take_left' (by rw [ho]; simp), ho, List.map_append]; rfl
 rcases d with ⟨rfl, hle, hne, cs, h4, h5, h6⟩ | ⟨rfl, rfl⟩
 ·by_cases hc : ss.length + 1 ≤ s.cp
  ·have hNs : N ≤ s.b := by rcases hN with h | h; cases h; exact h
   have hp : putAt N h (some ⟨s.b, s.o, none⟩) (ss.length * 1) [S val] = some (h.put s.b (.cells (splice cs (s.o + ss.length) [S val]) 9 0 0)) := by
    show setN N h s.b (s.o + ss.length * 1) [S val] = _
    rw [Nat.mul_one, setN_some h4 hNs (by simp [single]) (.inl (Nat.zero_le _)) (by simp; omega)]
   refine ⟨_, _, s, by rw [e0, if_pos hc, hp], ⟨by rw [List.length_append]; rfl, by rw [List.length_append]; exact hc, by simp, _, at_put_eq _ _ _, ?_, ?_⟩, Nat.le_refl _, .inl ⟨rfl, hne, hc, cs, h4, h5, rfl⟩⟩
   ·simp only [splice, List.length_append, List.length_take, List.length_drop, List.length_cons, List.length_nil]; omega
   ·have hl1 : (cs.take (s.o + ss.length)).length = s.o + ss.length := by rw [List.length_take]; omega
    unfold splice
    rw [List.append_assoc, List.drop_append_of_le_length (by omega), List.length_append, List.take_append, List.drop_take]
    have hl2 : ((cs.drop s.o).take (s.o + ss.length - s.o)).length = ss.length := by rw [List.length_take, List.length_drop]; omega
    rw [List.take_of_length_le (by omega), hl2, show s.o + ss.length - s.o = ss.length by omega, h6, List.map_append]
    congr 1
    simp
  ·have hf : firstN h 1 ss.length (.slice (some ⟨s.b, s.o, none⟩) ss.length s.cp) = some (ss.map S) := by
    show orNil _ (loadN h s.b s.o (ss.length * 1)) = _
    rw [Nat.mul_one, loadN_eq, h4, loadC_some, only_pos (by omega), h6]
    rfl
   obtain ⟨v', h', s', e, q1, q2, q3⟩ := newc _ _ _ _ rfl rfl hc hf
   exact ⟨v', h', s', e, q1, q2, .inr q3⟩
 ·obtain ⟨v', h', s', e, q1, q2, q3⟩ := newc none 0 0 [] rfl rfl (by omega) rfl
  exact ⟨v', h', s', e, q1, q2, .inr q3⟩
theorem HMap.app {own : Nat → Prop} {mb : Nat} {hs : Hdr} {xs : List Slot} {t : TypeId} {N c bN : Nat} {v : Value} {k val : Str} (ht : strMap Tryz.prog t = some 88) (m : HMap own h mb hs xs) (hN : N ≤ mb) (hNo : ∀ i, own i → N ≤ i) (hown : ∀ i, h.n ≤ i → own i)
  (hat : h.at bN = some (.cells [S val] 9 0 0)) (hv : alookup Tryz.prog h t (.map (some mb)) (S k) false = some v) (hbig : (valsH hs k).length + 1 ≤ 2 ^ 32) :
  ∃ v' h1 ob X, aappend N Tryz.prog h #[88, 88] v (.slice (some ⟨bN, 0, none⟩) 1 1) c = some (v', h1) ∧ aupdate N Tryz.prog h1 t (.map (some mb)) (S k) v' = some (h1.put mb ob) ∧
   HMap own (h1.put mb ob) mb (addH hs k val) xs ∧ Keep X h (h1.put mb ob) ∧ (∀ i ∈ X, own i) ∧ (∀ y, StrBlk h y → y.b < h.n → StrBlk (h1.put mb ob) y) := by
 have hmbm : ∀ y, StrBlk h y → y.b ≠ mb := by
  rintro y ⟨cs, hc, _⟩ e
  obtain ⟨es, ms, clock, m⟩ := m
  rw [e, m.at'] at hc
  cases hc
 rcases m.lookup ht k false with ⟨hg, hl⟩ | ⟨ss, s, u, hg, hl, hsv, hos, hls⟩
 ·have : v = .slice none 0 0 := by rw [hl] at hv; cases hv; rfl
  subst this
  obtain ⟨v', h1, s', e, hs', hn1, hc⟩ := app_sv (s := ⟨0, 0, 0⟩) (c := c) (N := N) (.inr ⟨rfl, rfl⟩) (.inl rfl) hat (by simp)
  obtain ⟨es, ms, clock, m⟩ := m
  rcases hc with ⟨_, hne, _⟩ | ⟨hb, ho, hx, hlt⟩
  ·exact absurd rfl hne
  have hbm : s'.b ≠ mb := by have := m.lmb; omega
  have hfr : ∀ e ∈ es, s'.disj e.slot := fun e he => .inl (by have := (m.oes e he).2; omega)
  obtain ⟨ob, h2, h3⟩ := HM.set (N := N) (h1 := h1) (xs' := xs) (v' := v') ht m k ⟨k, [val], s'⟩ rfl hN (hx.2 _ m.lmb) hn1 hs' (fun e he _ v hv => hv.keep (hx.2 _ (m.oes e he).2)) m.dis (fun e he _ => hfr e he)
   (fun y hy => .inl (by have := (m.oxs y hy).2; show s'.b ≠ y.b; omega)) ⟨hown _ (by show h.n ≤ s'.b; omega), hlt⟩ (fun y hy => ⟨(m.oxs y hy).1, Nat.lt_of_lt_of_le (m.oxs y hy).2 hn1⟩) hbm (slots_ne m)
  refine ⟨v', h1, ob, [mb], e, h2, by rw [addH_none hg]; exact h3, ((hx.keep [mb]).put (.inl (by simp)) _), by simp; exact m.omb, fun y hy hyl => by
   obtain ⟨cs, hc, hcl⟩ := id hy
   exact ⟨cs, (at_put_ne _ _ (hmbm y hy)).trans ((hx.2 _ hyl).trans hc), hcl⟩⟩
 ·have : v = u := by rw [hl] at hv; cases hv; rfl
  subst this
  have hss : valsH hs k = ss := by unfold valsH; rw [hg]; rfl
  rw [hss] at hbig
  obtain ⟨v', h1, s', e, hs', hn1, hc⟩ := app_sv (c := c) (N := N) (.inl hsv) (.inr (hNo _ hos)) hat hbig
  obtain ⟨es, ms, clock, m⟩ := m
  have hg2 : (getE es k).map (·.vals) = some ss := by rw [← get_ofE, ← m.hs']; exact hg
  rcases hge : getE es k with _ | ent
  ·rw [hge] at hg2; cases hg2
  rw [hge] at hg2
  obtain ⟨hme, hke⟩ := get_mem hge
  have hslot : ent.slot = s := by
   rcases rel_find k 0 m.rel with ⟨q1, _⟩ | ⟨e', v2, j, q1, q2, q3, q4, q5⟩
   ·rw [hge] at q1; cases q1
   ·rw [hge] at q1; cases q1
    have hE : entriesOf h (some mb) = some ms := by simp only [entriesOf, m.at']
    have : alookup Tryz.prog h t (.map (some mb)) (S k) false = some v2 := by
     unfold alookup
     rw [ht]
     simp only [hE]
     rw [show bytes ⟨k.toArray⟩ = k from rfl, q4]
     rfl
    rw [hl] at this
    have hvv : v = v2 := by simpa using this
    obtain ⟨a1, _⟩ := q5
    obtain ⟨a2, _⟩ := hsv
    rw [← hvv, a2] at a1
    cases hes : ent.slot with
    | mk b o cp =>
     rw [hes] at a1
     cases s with
     | mk b' o' cp' =>
      simp only [Value.slice.injEq, Option.some.injEq, Addr.mk.injEq] at a1
      obtain ⟨⟨r1, r2, _⟩, _, r3⟩ := a1
      subst r1 r2 r3
      rfl
  have hdis := List.pairwise_append.1 m.dis
  rcases hc with ⟨rfl, hne, hcap, cs, hcs, hcl, rfl⟩ | ⟨hb, ho, hx, hlt⟩
  ·have hoth : ∀ e ∈ es, e.key ≠ k → s'.disj e.slot := by
    intro e he hk
    have key : ∀ {es : List Ent}, (es.map (·.slot)).Pairwise Slot.disj → e ∈ es → ent ∈ es → ent.slot.disj e.slot := by
     intro es
     induction es with
     | nil => intro _ h; cases h
     | cons a t ih =>
      intro hp h1 h2
      obtain ⟨hp1, hp2⟩ := List.pairwise_cons.1 hp
      rcases List.mem_cons.1 h1 with rfl | h1'
      ·rcases List.mem_cons.1 h2 with rfl | h2'
       ·exact absurd hke hk
       ·exact Slot.disj_symm (hp1 _ (List.mem_map_of_mem (f := fun x : Ent => x.slot) h2'))
      ·rcases List.mem_cons.1 h2 with rfl | h2'
       ·exact hp1 _ (List.mem_map_of_mem (f := fun x : Ent => x.slot) h1')
       ·exact ih hp2 h1' h2'
    have := key hdis.1 he hme
    rwa [hslot] at this
   have hsx : ∀ y ∈ xs, s'.disj y := fun y hy => by
    have := hdis.2.2 _ (List.mem_map_of_mem (f := fun x : Ent => x.slot) hme) y hy
    rwa [hslot] at this
   have hsm : s'.b ≠ mb := by rw [← hslot]; exact slots_ne m ent hme
   obtain ⟨ob, h2, h3⟩ := HM.set (N := N) (h1 := h.put s'.b (.cells (splice cs (s'.o + ss.length) [S val]) 9 0 0)) (xs' := xs) (v' := v') ht m k ⟨k, ss ++ [val], s'⟩ rfl hN (at_put_ne _ _ (Ne.symm hsm)) hn1 hs' (fun e he hk v hv => hv.other hcs (by simp; omega) (by
     have := hoth e he hk
     unfold Slot.disj at this
     simp only [List.length_cons, List.length_nil]
     omega)) m.dis hoth hsx ⟨hos, hls⟩ m.oxs hsm (slots_ne m)
   refine ⟨v', _, ob, [mb, s'.b], e, h2, by rw [addH_some hg]; exact h3, ((Keep.refl _ _).put (.inl (by simp)) _).put (.inl (by simp)) _, ?_, ?_⟩
   rotate_left
   ·intro y hy hyl
    obtain ⟨cs2, hc2, hcl2⟩ := id hy
    by_cases hyb : y.b = s'.b
    ·rw [hyb, hcs] at hc2
     cases hc2
     refine ⟨_, (at_put_ne _ _ (hmbm y hy)).trans (by rw [hyb]; exact at_put_eq _ _ _), ?_⟩
     simp only [splice, List.length_append, List.length_take, List.length_drop, List.length_cons, List.length_nil]
     omega
    ·exact ⟨cs2, (at_put_ne _ _ (hmbm y hy)).trans ((at_put_ne _ _ hyb).trans hc2), hcl2⟩
   intro i hi
   simp at hi
   rcases hi with rfl | rfl
   ·exact m.omb
   ·exact hos
  ·have hbm : s'.b ≠ mb := by have := m.lmb; omega
   have hfr : ∀ e ∈ es, s'.disj e.slot := fun e he => .inl (by have := (m.oes e he).2; omega)
   obtain ⟨ob, h2, h3⟩ := HM.set (N := N) (h1 := h1) (xs' := xs) (v' := v') ht m k ⟨k, ss ++ [val], s'⟩ rfl hN (hx.2 _ m.lmb) hn1 hs' (fun e he _ v hv => hv.keep (hx.2 _ (m.oes e he).2)) m.dis (fun e he _ => hfr e he)
    (fun y hy => .inl (by have := (m.oxs y hy).2; show s'.b ≠ y.b; omega)) ⟨hown _ (by show h.n ≤ s'.b; omega), hlt⟩ (fun y hy => ⟨(m.oxs y hy).1, Nat.lt_of_lt_of_le (m.oxs y hy).2 hn1⟩) hbm (slots_ne m)
   refine ⟨v', h1, ob, [mb], e, h2, by rw [addH_some hg]; exact h3, ((hx.keep [mb]).put (.inl (by simp)) _), by simp; exact m.omb, fun y hy hyl => by
   obtain ⟨cs, hc, hcl⟩ := id hy
   exact ⟨cs, (at_put_ne _ _ (hmbm y hy)).trans ((hx.2 _ hyl).trans hc), hcl⟩⟩
theorem HMap.del {own : Nat → Prop} {mb : Nat} {hs : Hdr} {xs : List Slot} {t : TypeId} {N : Nat} (ht : strMap Tryz.prog t = some 88) (m : HMap own h mb hs xs) (hN : N ≤ mb) (k : Str) :
  ∃ ob, adelete N Tryz.prog h t (.map (some mb)) (S k) = some (h.put mb ob) ∧ HMap own (h.put mb ob) mb (delH hs k) xs := by
 obtain ⟨es, ms, clock, m⟩ := m
 have hsub : ∀ {es : List Ent}, (delE es k).Sublist es := by
  intro es
  induction es with
  | nil => exact List.Sublist.refl _
  | cons a t ih =>
   unfold delE
   cases decide (a.key = k) with
   | true => exact List.sublist_cons_self _ _
   | false => exact ih.cons_cons a
 have hfin : ∀ (o : AO) (ms' : List MapEntry) (c' : Nat), o = .map ms' c' → Born ms' c' → HMrel h (delE es k) ms' → HMap own (h.put mb o) mb (delH hs k) xs := by
  rintro o ms' c' rfl hbo hr
  have hse := hsub (es := es)
  refine ⟨delE es k, ms', c', by rw [m.hs', del_ofE], at_put_eq _ _ _, rel_keep hr (fun e he v hv2 => hv2.keep (at_put_ne _ _ (slots_ne m e (hse.mem he)))), ?_, ?_, m.omb, m.lmb, fun e he => m.oes e (hse.mem he), m.oxs, hbo⟩
  ·exact List.Pairwise.sublist ((hse.map _).append (List.Sublist.refl _)) m.dis
  ·exact List.Nodup.sublist (hse.map _) m.nod
 rcases rel_del k 0 m.rel with ⟨e1, e2⟩ | ⟨j, w, e1, e2⟩
 ·refine ⟨_, ?_, hfin _ _ clock rfl m.brn e2⟩
  unfold adelete
  rw [ht]
  simp only [m.at']
  rw [if_pos hN, show bytes ⟨k.toArray⟩ = k from rfl, e1]
 ·rw [Nat.zero_add] at e1
  refine ⟨_, ?_, hfin _ _ clock rfl (m.brn.sub (List.eraseIdx_sublist ..)) e2⟩
  unfold adelete
  rw [ht]
  simp only [m.at']
  rw [if_pos hN, show bytes ⟨k.toArray⟩ = k from rfl, e1]
end Go.Proofs.YtbjaapiliegegaaGreatDoor.Sy
end
