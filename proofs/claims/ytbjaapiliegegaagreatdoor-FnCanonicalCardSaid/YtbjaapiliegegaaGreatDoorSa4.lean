/- Runs over known values: appends, conversions, maps, ranges. -/
import Derived.Test.YtbjaapiliegegaaGreatDoorSa3
namespace Go.Proofs.YtbjaapiliegegaaGreatDoor.Sy
open Go Go.RowKit

section
variable {w0 : World} {h : Heap} {w : World} {P : Program}

theorem room_cut (w : World) (need old : Nat) (e : TypeId) : grownCap w need old e = room need (w.tape w.drawn (.appendCap need old e)) := rfl

theorem room_ge (need c : Nat) : need ≤ room need c := Nat.le_add_right _ _

theorem putAt_ok (hF : Full w0 h w) {a : Option Addr} {k : Nat} {vs : List Value} {h' : Heap} (e : putAt w0.heap.size h a k vs = some h') :
    ∃ w', Full w0 h' w' ∧ ((a = none ∧ w' = w) ∨ ∃ b o, a = some ⟨b, o, none⟩ ∧ (storeCells ⟨b, o + k, none⟩ vs).run P w = .ok () w') := by
  unfold putAt at e
  split at e
  · rename_i b o
    obtain ⟨w', h1, h2⟩ := setN_ok (P := P) hF e
    exact ⟨w', h2, .inr ⟨b, o, rfl, h1⟩⟩
  · cases e
  · split at e
    · cases e; exact ⟨w, hF, .inl ⟨rfl, rfl⟩⟩
    · cases e

theorem slicecap (need sc : Nat) (h : sc < need) (hn : need ≤ 2 ^ 32) : Builtin.nextslicecap need sc ≤ 2 ^ 33 + 200 := by
  have h32 : (2 : Nat) ^ 32 = 4294967296 := rfl
  have h33 : (2 : Nat) ^ 33 = 8589934592 := rfl
  have key : ∀ (r c : Nat), c ≤ 2 ^ 33 + 200 → Builtin.growBy need r c ≤ 2 ^ 33 + 200 := by
    intro r
    induction r with
    | zero => intro c hc; exact hc
    | succ r ih =>
      intro c hc
      unfold Builtin.growBy
      split
      · exact hc
      · exact ih _ (by omega)
  unfold Builtin.nextslicecap
  split
  · omega
  · split
    · omega
    · exact key _ _ (by omega)

theorem tail_cases {xd : TypeDesc} {z : Nat} {zv x : Value} {n : Nat} {new : List Value} (e : tailOf h xd z zv x = some (n, new)) :
    (∃ k0 k1 k, xd = .int k0 ∧ x = .int k1 k ∧ 0 ≤ k ∧ k < 2 ^ 32 ∧ n = k.toNat ∧ new = zeros zv.cells.toList n) ∨
    (((∃ q, xd = .slice q) ∨ xd = .string) ∧ lenOf x = some n ∧ firstN h z n x = some new) := by
  unfold tailOf at e
  split at e
  · rename_i k0 k1 k
    split at e
    · rename_i hk
      cases e
      exact .inl ⟨k0, k1, k, rfl, rfl, hk.1, hk.2, rfl, rfl⟩
    · cases e
  · split at e
    · rename_i m hm
      split at e
      · rename_i cs hcs
        cases e
        exact .inr ⟨.inl ⟨_, rfl⟩, hm, hcs⟩
      · cases e
    · cases e
  · split at e
    · rename_i m hm
      split at e
      · rename_i cs hcs
        cases e
        exact .inr ⟨.inr rfl, hm, hcs⟩
      · cases e
    · cases e
  · cases e

theorem zeros_ap {el : TypeId} {z n : Nat} {zv : Value} {new : List Value} (hzv : zeroT P el = some zv) (hnl : new.length = n * z) (hnew : new = zeros zv.cells.toList n) (u : World) :
    ((if n * z = 0 then pure #[] else do pure (Builtin.zeroCells (← zeroValue el).cells n)) : Sem (Array Value)).run P u = .ok new.toArray u := by
  split
  · rename_i h0
    have : new = [] := List.eq_nil_of_length_eq_zero (by rw [hnl]; exact h0)
    rw [this]
    rfl
  · simp only [Sem.run_bind, zero_run hzv, Result.andThen_ok, Sem.run_pure]
    congr 1
    apply Array.toList_inj.1
    rw [zeroCells_ok, hnew]

set_option maxHeartbeats 2000000 in
theorem append_ok (hF : Full w0 h w) {ts : Array TypeId} {ty : TypeId} {s x : Value} :
    ∃ c, ∀ v h', aappend w0.heap.size P h ts s x c = some (v, h') → ∃ w', (Builtin.append_ ts ty #[s, x]).run P w = .ok v w' ∧ Full w0 h' w' := by
  -- the choice is the tape's answer to the one question that may be asked
  refine ⟨match ts[0]?, s, ts[1]? with
    | some st, .slice _ sl sc, some xt => (match P.underlying st, P.underlying xt with
      | some (.slice e), some xd => (match sizeT P e, zeroT P e with
        | some z, some zv => (match tailOf h xd z zv x with
          | some (n, _) => w.tape w.drawn (.appendCap (sl + n) sc e)
          | none => 0)
        | _, _ => 0)
      | _, _ => 0)
    | _, _, _ => 0, fun v h' e => ?_⟩
  unfold aappend at e
  split at e
  · rename_i st xt a sl sc hst hxt
    simp only [hst, hxt] at e
    split at e
    · rename_i el xd hu hux
      simp only [hu, hux] at e
      split at e
      · rename_i z y zv hz hy hzv
        simp only [hz, hzv] at e
        split at e
        · rename_i n new ht
          simp only [ht] at e
          obtain ⟨i, hi, hby⟩ := bytesT_info hy
          split at e
          · rename_i hc
            obtain ⟨hzz, hnl, hy64⟩ := hc
            have hnl' : zv.cells.toList.length = z := by simp [hzz]
            have hF0 := hF
            split at e
            · rename_i hfit
              split at e
              · rename_i h2 hp
                cases e
                obtain ⟨w', hF', hcase⟩ := putAt_ok (P := P) hF hp
                refine ⟨w', ?_, hF'⟩
                rcases tail_cases ht with ⟨k0, k1, k, rfl, rfl, hk0, hk1, rfl, hnew⟩ | ⟨hxd, hln, hfn⟩
                · have h32 : (2 : Int) ^ 32 = 4294967296 := rfl
                  have hw : IntKind.i64.wrap k = k := by rw [IntKind.wrap_i64]; omega
                  have hm : k * (i.bytes : Int) ≤ 4294967296 * 64 := Int.mul_le_mul (by omega) (by omega) (by omega) (by omega)
                  have h48 : (2 : Int) ^ 48 = 281474976710656 := rfl
                  have hk2 : ¬ k < 0 := by omega
                  have hk3 : ¬ k * (i.bytes : Int) > 2 ^ 48 := by rw [h48]; omega
                  have hap := zeros_ap (P := P) (z := z) hzv hnl hnew w
                  simp only [Builtin.append_, List.getElem?_toArray, List.getElem?_cons_zero, List.getElem?_cons_succ, hst, hxt, Sem.run_bind, run_underlying hu, run_underlying hux, Sem.run_pure, Result.andThen_ok, size_run hz, asInt, asIntOf, hw, if_neg hk2, info_run hi, if_neg hk3, if_true]
                  rw [if_pos hfit]
                  simp only [Bool.not_true, Bool.false_eq_true, if_false, Sem.run_bind]
                  rw [hap]
                  simp only [Result.andThen_ok]
                  rcases hcase with ⟨rfl, rfl⟩ | ⟨b, o, rfl, hst2⟩
                  · simp
                  · simp only [add_at, Sem.run_bind, hst2, Result.andThen_ok, Sem.run_pure]
                · have hap := firstN_ok (P := P) hF hfn
                  rcases hxd with ⟨q, rfl⟩ | rfl
                  all_goals
                    simp only [Builtin.append_, List.getElem?_toArray, List.getElem?_cons_zero, List.getElem?_cons_succ, hst, hxt, Sem.run_bind, run_underlying hu, run_underlying hux, Sem.run_pure, Result.andThen_ok, size_run hz, lenOf_ok (P := P) (w := w) hln, Bool.false_eq_true, if_false]
                    rw [if_pos hfit]
                    simp only [Bool.not_false, if_true, Sem.run_bind]
                    rw [hap]
                    simp only [Result.andThen_ok]
                    rcases hcase with ⟨rfl, rfl⟩ | ⟨b, o, rfl, hst2⟩
                    · simp
                    · simp only [add_at, Sem.run_bind, hst2, Result.andThen_ok, Sem.run_pure]
              · cases e
            · rename_i hfit
              split at e
              · rename_i hn32
                split at e
                · rename_i old hold
                  split at e
                  · rename_i hol
                    cases e
                    have hFd := hF.drew
                    have hold' := firstN_ok (P := P) hFd hold
                    generalize hrm : room (sl + n) (w.tape w.drawn (.appendCap (sl + n) sc el)) = rm
                    obtain ⟨h1, h2⟩ := newRow_ok (P := P) hFd (e := el) (c := old ++ new ++ zeros zv.cells.toList (rm - (sl + n)))
                    refine ⟨_, ?_, h2⟩
                    have h32 : (2 : Nat) ^ 32 = 4294967296 := rfl
                    have hmax : IntKind.i64.max = 9223372036854775807 := rfl
                    have hbig : ¬ ((sl + n : Nat) : Int) > IntKind.i64.max := by rw [hmax]; omega
                    have hcapb := slicecap (sl + n) sc (by omega) hn32
                    have hroom : ¬ Builtin.nextslicecap (sl + n) sc * i.bytes > 2 ^ 48 := by
                      have h48 : (2 : Nat) ^ 48 = 281474976710656 := rfl
                      have h33 : (2 : Nat) ^ 33 = 8589934592 := rfl
                      have : Builtin.nextslicecap (sl + n) sc * i.bytes ≤ (2 ^ 33 + 200) * 64 := Nat.mul_le_mul hcapb (by omega)
                      omega
                    have hrest : Builtin.zeroCells zv.cells (rm - (sl + n)) = (zeros zv.cells.toList (rm - (sl + n))).toArray := by
                      apply Array.toList_inj.1; rw [zeroCells_ok]
                    have hch : (choose (.appendCap (sl + n) sc el)).run P w = .ok rm w.drew := by
                      rw [← hrm]
                      have hforced : (Question.appendCap (sl + n) sc el).forced = false := rfl
                      have hcut : (Question.appendCap (sl + n) sc el).cut (w.tape w.drawn (.appendCap (sl + n) sc el)) = room (sl + n) (w.tape w.drawn (.appendCap (sl + n) sc el)) := rfl
                      simp [choose, Sem.run, hforced, hcut, World.drew, -World.drew_eq]
                    have hsum : old.toArray ++ new.toArray ++ (zeros zv.cells.toList (rm - (sl + n))).toArray = (old ++ new ++ zeros zv.cells.toList (rm - (sl + n))).toArray := by simp
                    rcases tail_cases ht with ⟨k0, k1, k, rfl, rfl, hk0, hk1, rfl, hnew⟩ | ⟨hxd, hln, hfn⟩
                    · have h32' : (2 : Int) ^ 32 = 4294967296 := rfl
                      have hw : IntKind.i64.wrap k = k := by rw [IntKind.wrap_i64]; omega
                      have hm : k * (i.bytes : Int) ≤ 4294967296 * 64 := Int.mul_le_mul (by omega) (by omega) (by omega) (by omega)
                      have h48 : (2 : Int) ^ 48 = 281474976710656 := rfl
                      have hk2 : ¬ k < 0 := by omega
                      have hk3 : ¬ k * (i.bytes : Int) > 2 ^ 48 := by rw [h48]; omega
                      have hap := zeros_ap (P := P) (z := z) hzv hnl hnew w.drew
                      simp only [Builtin.append_, List.getElem?_toArray, List.getElem?_cons_zero, List.getElem?_cons_succ, hst, hxt, Sem.run_bind, run_underlying hu, run_underlying hux, Sem.run_pure, Result.andThen_ok, size_run hz, asInt, asIntOf, hw, if_neg hk2, info_run hi, if_neg hk3, if_true]
                      rw [if_neg hfit]
                      simp only [Sem.run_bind, Sem.run_pure, Result.andThen_ok, true_or, and_true, if_neg hbig, info_run hi, if_neg hroom, hch, run_askRoom]
                      rw [hold']
                      simp only [Bool.not_true, Bool.false_eq_true, if_false, Result.andThen_ok, Sem.run_bind]
                      rw [hap]
                      simp only [Result.andThen_ok, zero_run hzv, hrest, hsum, h1]
                    · have hap := firstN_ok (P := P) hFd hfn
                      rcases hxd with ⟨q, rfl⟩ | rfl
                      all_goals
                        simp only [Builtin.append_, List.getElem?_toArray, List.getElem?_cons_zero, List.getElem?_cons_succ, hst, hxt, Sem.run_bind, run_underlying hu, run_underlying hux, Sem.run_pure, Result.andThen_ok, size_run hz, lenOf_ok (P := P) (w := w) hln, Bool.false_eq_true, if_false]
                        rw [if_neg hfit]
                        simp only [Sem.run_bind, Sem.run_pure, Result.andThen_ok, info_run hi]
                        rw [if_neg (fun h => hbig h.1)]
                        simp only [Sem.run_bind, Sem.run_pure, Result.andThen_ok, info_run hi, if_neg hroom, hch, run_askRoom]
                        rw [hold']
                        simp only [Bool.not_false, if_true, Result.andThen_ok, Sem.run_bind]
                        rw [hap]
                        simp only [Result.andThen_ok, zero_run hzv, hrest, hsum, h1]
                  · cases e
                · cases e
              · cases e
          · cases e
        · cases e
      · cases e
    · cases e
  · cases e
end
end Go.Proofs.YtbjaapiliegegaaGreatDoor.Sy
