/- The reckoner on this program: what it asks of the program, and the idle closure. -/
import Derived.Recover
import Derived.Tactics
import Derived.Tactics2
import Derived.KernelRfl
import Derived.Test.YtbjaapiliegegaaGreatDoorProg
import Derived.Test.YtbjaapiliegegaaGreatDoorCe11
namespace Go.Proofs.YtbjaapiliegegaaGreatDoor
open Go Ce

theorem mixed : Tryz.prog.follows .mixedOrders = true := by kernel_rfl

theorem noCount_all : (Tryz.prog.funcs.all fun F => !(F.name == "runtime.NumGoroutine")) = true := by kernel_rfl

theorem noCount : NoCount Tryz.prog := by
  intro f F hF
  have := Array.all_eq_true_iff_forall_mem.1 noCount_all F (Array.mem_of_getElem? hF)
  simpa using this

theorem idle57 (A : Array Value) (w : World) : CallsD Tryz.prog 57 A .returning w fun e u' w' => (∃ v, e = .returned v) ∧ u' = .returning ∧ w' = w := by
  have hsz : 6 ≤ (A ++ Array.replicate (6 - A.size) undef).size := by simp; omega
  refine callsD_of_wpS Tryz.func57 rfl fun c₀ cs hu => ?_
  simp only [Tryz.ntmps57]
  generalize A ++ Array.replicate (6 - A.size) undef = T at hsz ⊢
  have h3 : ∀ v u, ((T.setIfInBounds 3 v).setIfInBounds 4 u).getD 4 undef = u := by intro v u; simp [Array.getD_eq_getD_getElem?]; omega
  have h4 : ∀ v, (T.setIfInBounds 3 v)[3]?.getD undef = v := by intro v; simp; omega
  apply wpS_seq
  apply wpS_region
  simp [wpOpsS, go_sem, recoverD, hu, Exit.thenS, h4]
  refine wpS_cond (t := false) (by simp [Act.eval]; omega) ?_
  simp only [Bool.false_eq_true, if_false]
  refine wpS_of_wp (wp_skip ?_)
  cases c₀
  simp_all [bodyPostS, results, Tryz.results57]

theorem idle : IdleOk Tryz.prog [57] := by
  intro g hg A w
  have : g = 57 := by simpa using hg
  subst this
  exact idle57 A w
end Go.Proofs.YtbjaapiliegegaaGreatDoor
