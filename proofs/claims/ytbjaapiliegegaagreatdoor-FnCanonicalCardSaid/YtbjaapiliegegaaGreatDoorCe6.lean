/- The reckoner's append, conversions, maps. -/
import Derived.Test.YtbjaapiliegegaaGreatDoorCe5
namespace Go.Proofs.YtbjaapiliegegaaGreatDoor.Ce
open Go Go.RowKit

section
variable {N : Nat} {P : Program} {w0 : World} {h : Heap} {w : World}

set_option maxHeartbeats 1000000 in
theorem append_ok (hF : Full N w0 h w) (hN : N = w0.heap.size) (hn0 : n0 ≤ N) {ts : Array TypeId} {ty : TypeId} {s x v : AV} {S X : Value} {h' : Heap} (e : aappend P h ts s x = some (v, h')) (hs : RV N s S) (hx : RV N x X) :
    ∃ V w', (Builtin.append_ ts ty #[S, X]).run P w = .ok V w' ∧ RV N v V ∧ Full N w0 h' w' := by
  unfold aappend at e
  split at e
  · rename_i st xt a sl sc n hst hxt hln
    split at e
    · rename_i el xd hu hux
      split at e
      · rename_i i hi hint
        split at e
        · rename_i hb
          obtain ⟨hs1, hby, hlt, hsc⟩ := hb
          obtain rfl : S = .slice (addr N a) sl sc := hs
          split at e
          · rename_i new hnew
            obtain ⟨Cs, hCs, hr⟩ := firstN_ok (P := P) hF.den hnew hx
            split at e
            · rename_i hfit
              split at e
              · rename_i b o
                split at e
                · rename_i h2 hset
                  cases e
                  obtain ⟨w', h1, h3⟩ := setN_ok (P := P) hF hn0 hset hr
                  refine ⟨.slice (addr N (some (b, o))) (sl + n) sc, w', ?_, rfl, h3⟩
                  cases xd <;> first | (cases hint; done) | simp [Builtin.append_, hst, hxt, run_underlying hu, run_underlying hux, size_run hi, lenOf_ok (P := P) (w := w) hln hx, hs1, hfit, hCs, addr, add_at, h1]
                · cases e
              · split at e
                · rename_i hl0
                  cases e
                  refine ⟨.slice none (sl + n) sc, w, ?_, rfl, hF⟩
                  cases xd <;> first | (cases hint; done) | simp [Builtin.append_, hst, hxt, run_underlying hu, run_underlying hux, size_run hi, lenOf_ok (P := P) (w := w) hln hx, hs1, hfit, hCs, addr]
                · cases e
            · rename_i hfit
              split at e
              · cases e
              · rename_i hsc0
                have hsc0' : sc = 0 := by simpa using hsc0
                subst hsc0'
                split at e
                · rename_i old z hold hz
                  split at e
                  · rename_i zv hzv
                    cases e
                    obtain ⟨Os, hOs, hor⟩ := firstN_ok (P := P) (hF.drew).den hold (show RV N (.slice a sl (some 0)) (.slice (addr N a) sl 0) from rfl)
                    obtain ⟨Ns, hNs, hnr⟩ := firstN_ok (P := P) (hF.drew).den hnew hx
                    have h20 : (2 : Nat) ^ 20 = 1048576 := rfl
                    have hcap : (Question.appendCap (sl + n) 0 el).cut (w.tape w.drawn (.appendCap (sl + n) 0 el)) = sl + n + (w.tape w.drawn (.appendCap (sl + n) 0 el)) % (2 ^ 63 - (sl + n)) := rfl
                    generalize hcc : (Question.appendCap (sl + n) 0 el).cut (w.tape w.drawn (.appendCap (sl + n) 0 el)) = cc at hcap
                    obtain ⟨h1, h2⟩ := newRow_ok (P := P) (hF.drew) hN (o := .more (old ++ new) el) (C := Os ++ Ns ++ Builtin.zeroCells z.cells (cc - (sl + n))) (e := el)
                      ⟨_, _, Os.toList ++ Ns.toList, rfl, RVs_append hor hnr, (Builtin.zeroCells z.cells (cc - (sl + n))).toList, by simp⟩
                    refine ⟨.slice (some ⟨bt N h.n, 0, none⟩) (sl + n) cc, _, ?_, ⟨cc, by omega, rfl⟩, h2⟩
                    have hmax : IntKind.i64.max = 9223372036854775807 := rfl
                    have hbig : ¬ ((sl + n : Nat) : Int) > IntKind.i64.max := by rw [hmax]; omega
                    have hnc : Builtin.nextslicecap (sl + n) 0 = sl + n := by unfold Builtin.nextslicecap; rw [if_pos (by omega)]
                    have hroom : ¬ (sl + n) * i.bytes > 2 ^ 48 := by
                      have h48 : (2 : Nat) ^ 48 = 281474976710656 := rfl
                      have : (sl + n) * i.bytes ≤ 1048576 * 64 := Nat.mul_le_mul (by omega) hby
                      omega
                    have hforced : (Question.appendCap (sl + n) 0 el).forced = false := rfl
                    have hz0 : ∀ W, (zeroValue el).run P W = .ok z W := fun W => by simp [zeroValue, info_run hi, hz]
                    have hfit' : ¬ (sl = 0 ∧ n = 0) := by omega
                    have hbig' : ¬ ((9223372036854775807 : Int) < (sl : Int) + (n : Int) ∧ i.bytes = 0) := by omega
                    rw [Array.append_assoc] at h1 ⊢
                    cases xd <;> first | (cases hint; done) | simp [Builtin.append_, hst, hxt, run_underlying hu, run_underlying hux, size_run hi, info_run hi, lenOf_ok (P := P) (w := w) hln hx, hs1, hfit', hmax, hbig', hnc, hroom, hforced, hcc, hOs, hNs, hz0, h1]
                  · cases e
                · cases e
          · cases e
        · cases e
      · cases e
    · cases e
  · cases e
end
end Go.Proofs.YtbjaapiliegegaaGreatDoor.Ce
