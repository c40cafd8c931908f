/- What the laid variables give; the start. -/
import Derived.Test.YtbjaapiliegegaaGreatDoorRows
import Derived.ProofKit
import Derived.LaidMore
import Derived.OpenShut
import Derived.Stop.Joined
import Derived.Stop.LaidErr
import Derived.SevenTiedAt
import Derived.Test.YtbjaapiliegegaaGreatDoorSbD
namespace Go.Proofs.YtbjaapiliegegaaGreatDoor.Sy
open Go Go.ChangeShapes Go.WideShapes Go.ChangeAt Go.WideElems Go.RowKit

theorem laid_mem {P : Program} {w : World} : ∀ {l : List (String × DataW Unit)} {ps : List MemPlace} {n : String} {d : DataW Unit}, DataW.LaidVars P w l ps → (n, d) ∈ l →
    ∃ g t cs fuel p, P.globalNamed n = some g ∧ (P.globals[g]?).map (·.type) = some t ∧ w.var? P n = some cs ∧ DataW.trod (fun _ => ()) P w 0 (fun _ => true) false fuel t cs.toList = some (d, p)
  | [], _, _, _, _, hm => by cases hm
  | (n', d') :: l, ps, n, d, ⟨g, t, cs, fuel, p, q, h1, h2, h3, h4, hr, _⟩, hm => by
    rcases List.mem_cons.1 hm with e | hm
    · cases e
      exact ⟨g, t, cs, fuel, p, h1, h2, h3, h4⟩
    · exact laid_mem hr hm

theorem gTable : Tryz.prog.globalNamed "pub-httpmessages/pub/neturl.table" = some 7 := by kernel_rfl
theorem gSyntax : Tryz.prog.globalNamed "strconv.ErrSyntax" = some 4 := by kernel_rfl
theorem tTable : (Tryz.prog.globals[7]?).map (·.type) = some 349 := by kernel_rfl
theorem tSyntax : (Tryz.prog.globals[4]?).map (·.type) = some 79 := by kernel_rfl
theorem c8 : Tryz.prog.cellsOf 312 = 1 := by kernel_rfl
/-- The row's table, number by number. -/
def dataOf : DataW Unit → List Int
  | .agg l => l.map fun x => match x with
    | .lit (.int .u8 n) => n
    | _ => 0
  | _ => []

theorem tableIs : (Rows.laid_pub_httpmessages_pub_neturl_table : DataW Unit) = .agg (table0.map fun n => .lit (.int .u8 n)) := by kernel_rfl

theorem laid_ready {W : World} {laid : List (String × DataW Unit)} (hm : ("pub-httpmessages/pub/neturl.table", Rows.laid_pub_httpmessages_pub_neturl_table) ∈ laid) (h : laidMet Tryz.prog laid W) : Ready W := by
  obtain ⟨ps, hL, _, _⟩ := h
  obtain ⟨g, t, cs, fuel, p, h1, h2, h3, h4⟩ := laid_mem hL hm
  obtain rfl := Option.some.inj (gTable.symm.trans h1)
  obtain rfl := Option.some.inj (tTable.symm.trans h2)
  have hcell := fun i => World.var?_cell h1 h3 i
  refine ⟨?_, ?_⟩
  · have hlt : 7 < W.heap.size := by
      rcases Nat.lt_or_ge 7 W.heap.size with h' | h'
      · exact h'
      · unfold World.var? at h3
        simp [gTable, Array.getElem?_eq_none h'] at h3
    exact hlt
  · rw [tableIs] at h4
    obtain ⟨xs, m, rfl, hx, hlen, hn, hel⟩ := DataW.trod_array Tryz.underlying349 h4
    simp only [Prod.mk.injEq, DataW.agg.injEq] at hx
    intro i n hin
    have hi : i < 256 := by
      have hlen : table0.length = 256 := by kernel_rfl
      have := (List.getElem?_eq_some_iff.1 hin).1
      rwa [hlen] at this
    have h0 := hel i hi
    rw [c8] at h0
    have hxi : (xs.map (·.1))[i]? = some (.lit (.int .u8 n)) := by rw [← hx.1, List.getElem?_map, hin]; rfl
    rw [List.getElem?_map] at hxi
    cases hq : xs[i]? with
    | none => rw [hq] at hxi; cases hxi
    | some x =>
      rw [hq] at h0 hxi
      obtain ⟨k, e1, e2, _⟩ := DataW.trod_int Tryz.underlying312 h0
      have hk : k = n := by
        rw [e2] at hxi
        simpa using hxi
      subst hk
      rw [hcell i]
      have : cs.toList[i]? = some (.int .u8 k) := by
        have := congrArg (fun l => l[0]?) e1
        simpa [List.getElem?_take, List.getElem?_drop] using this
      simpa using this

/-- The start: nothing is known but how many blocks there are. -/
def start (w : World) : Heap := ⟨w.heap.size, fun _ => none⟩
theorem full_start (w : World) : Full w (start w) w := ⟨rfl, fun _ _ e => (nomatch e), .refl _ _⟩
theorem str_eq (s : ByteArray) : Value.string s = S s.data.toList := by
  cases s
  simp
end Go.Proofs.YtbjaapiliegegaaGreatDoor.Sy
