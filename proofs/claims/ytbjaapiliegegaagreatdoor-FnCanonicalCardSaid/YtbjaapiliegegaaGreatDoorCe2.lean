/- The reckoner's single operations that write nothing: what they reckon is what the machine's operation comes to. -/
import Derived.Test.YtbjaapiliegegaaGreatDoorCe1
namespace Go.Proofs.YtbjaapiliegegaaGreatDoor.Ce
open Go Go.RowKit

section
variable {N : Nat} {P : Program}

theorem aggT_run {t : TypeId} {b : Bool} (e : aggT P t = some b) (w : World) : (isAgg t).run P w = .ok b w := by
  unfold aggT at e
  split at e <;> cases e
  · rename_i h; simp [isAgg, run_underlying h]
  · rename_i h; simp [isAgg, run_underlying h]
  · rename_i d hd h h'
    rw [isAgg]
    simp only [Sem.run_bind, run_underlying h', Result.andThen_ok]
    cases d <;> first | rfl | exact absurd rfl (hd _) | exact absurd rfl (h _ _)

theorem size_run {t : TypeId} {i : TypeInfo} (e : P.info? t = some i) (w : World) : (sizeOf t).run P w = .ok i.size w := by
  simp [sizeOf, typeInfo, e]

theorem info_run {t : TypeId} {i : TypeInfo} (e : P.info? t = some i) (w : World) : (typeInfo t).run P w = .ok i w := by
  simp [typeInfo, e]

theorem azero_run {t : TypeId} {z : AV} (e : azero P t = some z) (w : World) : ∃ Z, (zeroValue t).run P w = .ok Z w ∧ RV N z Z ∧ z ≠ .any := by
  unfold azero at e
  split at e
  · rename_i i hi
    split at e
    · rename_i Z hz
      exact ⟨Z, by simp [zeroValue, info_run hi, hz], ofZero_RV e, ofZero_any e⟩
    · cases e
  · cases e

theorem aload_ok {h : Heap} {w : World} (hD : Den N h w) {t : TypeId} {b o : Nat} {v : AV} (e : aload P h t b o = some v) :
    ∃ V, (loadVar t ⟨bt N b, o, none⟩).run P w = .ok V w ∧ RV N v V := by
  unfold aload at e
  split at e
  · rename_i i ha hi
    split at e
    · rename_i cs hl
      cases e
      obtain ⟨Vs, hr, hlen, hc⟩ := loadN_ok hD hl
      refine ⟨.agg Vs.toArray, ?_, Vs.toArray, rfl, by simpa using hr⟩
      simp [loadVar, aggT_run ha, size_run hi, run_loadN hlen hc]
    · cases e
  · rename_i i ha
    obtain ⟨V, hV, hr⟩ := cellAt_ok hD e
    refine ⟨V, ?_, hr⟩
    simp [loadVar, aggT_run ha, hV]
  · cases e

theorem meth_run {t : TypeId} {name : String} {f : FuncId} {b : Bool} (e : ameth P t name = some (f, b)) :
    ∃ i m, P.info? t = some i ∧ i.methods.find? (·.name == name) = some m ∧ m.path.toList = [] ∧ m.func = some (f, b) := by
  unfold ameth at e
  split at e
  · rename_i i hi
    split at e
    · rename_i m hm
      split at e
      · rename_i hp
        exact ⟨i, m, hi, hm, by simpa using hp, e⟩
      · cases e
    · cases e
  · cases e

theorem amethod_run {t : TypeId} {v : AV} {V : Value} {name : String} {f : FuncId} {r : AV} (e : amethod P t v name = some (f, r)) (n : Nat) (w : World) :
    (method (n + 1) t V name).run P w = .ok (f, V) w ∧ r = v := by
  unfold amethod at e
  split at e <;> first | cases e | skip
  all_goals
    rename_i hu hm
    obtain ⟨i, m, hi, hf, hp, hfn⟩ := meth_run hm
    simp [method, info_run hi, hf, hp, follow, hfn, receiverAt, run_underlying hu, Place.get]


theorem bytes_beq (a b : List UInt8) : ((⟨a.toArray⟩ : ByteArray) == ⟨b.toArray⟩) = (a == b) := by
  show (a.toArray == b.toArray) = (a == b)
  simp

theorem equal_ok {w : World} : ∀ (d k : Nat) {t : TypeId} {x y : AV} {r : Bool} {X Y : Value}, aequal P d t x y = some r → RV N x X → RV N y Y →
    (Op.equalIn (d + k) t X Y).run P w = .ok r w := by
  intro d
  induction d with
  | zero => intro k t x y r X Y e; simp [aequal] at e
  | succ d ih =>
    intro k t x y r X Y e hx hy
    rw [show d + 1 + k = (d + k) + 1 by omega]
    unfold aequal at e
    split at e <;> first | cases e | skip
    case _ hu => rw [show X = _ from hx, show Y = _ from hy]; simp [Op.equalIn, run_underlying hu]
    case _ hu =>
      rw [show X = _ from hx, show Y = _ from hy]
      split at e
      · rename_i hk; cases e; subst hk; simp [Op.equalIn, run_underlying hu]
      · cases e
    case _ hu => rw [show X = _ from hx, show Y = _ from hy]; simp [Op.equalIn, run_underlying hu, bytes_beq]
    case _ b hu =>
      rw [show X = _ from hx, show Y = _ from hy]
      cases b <;> simp [Op.equalIn, run_underlying hu, addr]
    case _ hu => rw [show X = _ from hx, show Y = _ from hy]; simp [Op.equalIn, run_underlying hu, addr]
    case _ hu => rw [show X = _ from hx, show Y = _ from hy]; simp [Op.equalIn, run_underlying hu]
    case _ hu => obtain ⟨U, rfl, _⟩ := hy; rw [show X = _ from hx]; simp [Op.equalIn, run_underlying hu]
    case _ hu => obtain ⟨U, rfl, _⟩ := hx; rw [show Y = _ from hy]; simp [Op.equalIn, run_underlying hu]
    case _ tx vx ty vy hu =>
      obtain ⟨U, rfl, hU⟩ := hx
      obtain ⟨V, rfl, hV⟩ := hy
      split at e
      · rename_i hne; cases e; simp [Op.equalIn, run_underlying hu, hne]
      · rename_i heq
        have heq' : tx = ty := by simpa using heq
        subst heq'
        split at e
        · rename_i i hi
          split at e
          · rename_i hc
            have := ih k e hU hV
            simp [Op.equalIn, run_underlying hu, info_run hi, hc, this]
          · cases e
        · cases e
    case _ n c b m c' hu =>
      have hX : ∃ c, X = .slice none n c := by cases c <;> simp only [RV] at hx <;> first | exact ⟨_, hx⟩ | exact ⟨_, hx.choose_spec.2⟩
      have hY : ∃ c, Y = .slice (addr N b) m c := by cases c' <;> simp only [RV] at hy <;> first | exact ⟨_, hy⟩ | exact ⟨_, hy.choose_spec.2⟩
      obtain ⟨_, rfl⟩ := hX
      obtain ⟨_, rfl⟩ := hY
      cases b <;> simp [Op.equalIn, run_underlying hu, addr]
    case _ p n c m c' hu =>
      have hX : ∃ c, X = .slice (addr N (some p)) n c := by cases c <;> simp only [RV] at hx <;> first | exact ⟨_, hx⟩ | exact ⟨_, hx.choose_spec.2⟩
      have hY : ∃ c, Y = .slice none m c := by cases c' <;> simp only [RV] at hy <;> first | exact ⟨_, hy⟩ | exact ⟨_, hy.choose_spec.2⟩
      obtain ⟨_, rfl⟩ := hX
      obtain ⟨_, rfl⟩ := hY
      simp [Op.equalIn, run_underlying hu, addr]
    case _ b hu => rw [show X = _ from hx, show Y = _ from hy]; cases b <;> simp [Op.equalIn, run_underlying hu]
    case _ hu => rw [show X = _ from hx, show Y = _ from hy]; simp [Op.equalIn, run_underlying hu]
    case _ hu => rw [show X = _ from hx, show Y = _ from hy]; simp [Op.equalIn, run_underlying hu]
    case _ hu => obtain ⟨F, C, rfl, _⟩ := hy; rw [show X = _ from hx]; simp [Op.equalIn, run_underlying hu]
    case _ hu => obtain ⟨F, C, rfl, _⟩ := hx; rw [show Y = _ from hy]; simp [Op.equalIn, run_underlying hu]

theorem equal_run {w : World} {t : TypeId} {x y : AV} {r : Bool} {X Y : Value} (e : aequal P 4 t x y = some r) (hx : RV N x X) (hy : RV N y Y) :
    (Op.equal t X Y).run P w = .ok r w := by
  have := equal_ok (w := w) 4 9996 e hx hy
  exact this

theorem guard_ok {w : World} {op : BinOp} {t : TypeId} {x y : Operand} {a b : AV} {A B : Value} (e : guardOk op x y a b = true) (ha : RV N a A) (hb : RV N b B) :
    (eqGuard op t x y A B).run P w = .ok () w := by
  have hA : ∀ {a : AV} {A : Value}, RV N a A → A = .nilIface → a = .nilIface ∨ a = .any := by
    intro a A h e
    subst e
    cases a <;> simp [RV] at h ⊢
    case slice x n c => cases c <;> simp [RV] at h
  have hG : ∀ {a : AV} {A : Value} {C : Array Value}, RV N a A → A = .agg C → (∃ cs, a = .agg cs) ∨ a = .any := by
    intro a A C h e
    subst e
    cases a <;> simp [RV] at h ⊢
    case slice x n c => cases c <;> simp [RV] at h
  unfold eqGuard
  cases op
  case eql | neq =>
    simp only [guardOk] at e
    simp only [Bool.not_true, Bool.false_eq_true, ↓reduceIte]
    split
    · rename_i h1 h2
      rcases hA ha rfl with rfl | rfl
      · rcases hA hb rfl with rfl | rfl
        · cases x <;> cases y <;> first | rfl | (simp [isConst] at e; done)
        · simp at e
      · simp at e
    · rename_i C D
      rcases hG ha rfl with ⟨cs, rfl⟩ | rfl
      · rcases hG hb rfl with ⟨ds, rfl⟩ | rfl
        · simp at e
        · simp at e
      · simp at e
    · rfl
  all_goals rfl

theorem bits_ok {w : World} {op : BinOp} {k : IntKind} {a b : Int} {r : AV} (e : abits op k a b = some r) : ∃ R, (Op.intBits op k a b).run P w = .ok R w ∧ RV N r R := by
  unfold abits at e
  cases op <;> simp only at e <;> first | cases e | skip
  all_goals exact ⟨_, rfl, rfl⟩

theorem slice_RV {a : Option (Nat × Nat)} {n : Nat} {c : Option Nat} {X : Value} (h : RV N (.slice a n c) X) :
    ∃ c', X = .slice (addr N a) n c' ∧ (∀ k, c = some k → c' = k) ∧ (c = none → n ≤ c') := by
  cases c with
  | some k => exact ⟨k, h, fun j e => by cases e; rfl, fun e => by cases e⟩
  | none => obtain ⟨c', h1, h2⟩ := h; exact ⟨c', h2, fun j e => by (cases e), fun _ => h1⟩

def other : Value → Bool
  | .int .. | .float .. | .complex .. | .string _ | .agg _ | .tuple _ | .chan _ => false
  | _ => true

theorem bin_other (t : TypeId) (X Y : Value) (h : other X = true) :
    binOp .eql t X Y = (do pure (.bool (← Op.equal t X Y))) ∧ binOp .neq t X Y = (do pure (.bool (!(← Op.equal t X Y)))) := by
  cases X <;> first | (simp [other] at h; done) | (cases Y <;> simp [binOp])

theorem bin_ok {w : World} {op : BinOp} {t : TypeId} {x y r : AV} {X Y : Value} (e : abin P op t x y = some r) (hx : RV N x X) (hy : RV N y Y) :
    ∃ R, (binOp op t X Y).run P w = .ok R w ∧ RV N r R := by
  unfold abin at e
  split at e
  · rename_i k a k' b
    rw [show X = _ from hx, show Y = _ from hy]
    cases op
    case shl =>
      simp only at e
      split at e
      · cases e
      · rename_i hb; cases e; exact ⟨_, by simp [binOp, Op.shift, hb], rfl⟩
    case shr =>
      simp only at e
      split at e
      · cases e
      · rename_i hb; cases e; exact ⟨_, by simp [binOp, Op.shift, hb], rfl⟩
    all_goals
      simp only at e
      split at e
      · cases e
      rename_i hk
      have hk' : k = k' := by simpa using hk
      subst hk'
    case h_1.quo.isFalse => 
      by_cases hb : b = 0
      · rw [if_pos hb] at e; cases e
      · rw [if_neg hb] at e; cases e; exact ⟨_, by simp [binOp, Op.intDiv, hb], rfl⟩
    case h_1.rem.isFalse => 
      by_cases hb : b = 0
      · rw [if_pos hb] at e; cases e
      · rw [if_neg hb] at e; cases e; exact ⟨_, by simp [binOp, Op.intDiv, hb], rfl⟩
    case h_1.and.isFalse | h_1.or.isFalse | h_1.xor.isFalse | h_1.andNot.isFalse =>
      obtain ⟨R, h1, h2⟩ := bits_ok (N := N) (P := P) (w := w) e
      exact ⟨R, by simpa [binOp] using h1, h2⟩
    all_goals
      cases e
      refine ⟨_, ?_, rfl⟩
      first
        | (simp [binOp, Op.intArith]; done)
        | (simp [binOp, Op.intCmp]; done)
  · rename_i a b
    rw [show X = _ from hx, show Y = _ from hy]
    cases op <;> simp only at e <;> first | cases e | skip
    case add =>
      split at e
      · rename_i hl
        cases e
        refine ⟨.string ⟨(a ++ b).toArray⟩, ?_, rfl⟩
        have h1 : ¬ (((⟨a.toArray⟩ : ByteArray).size + (⟨b.toArray⟩ : ByteArray).size : Nat) : Int) > IntKind.i64.max := by
          simp only [ByteArray.size, List.size_toArray]
          have : IntKind.i64.max = 9223372036854775807 := rfl
          rw [this]
          have h40 : (2 : Nat) ^ 40 = 1099511627776 := rfl
          omega
        have h2 : (⟨a.toArray⟩ : ByteArray) ++ ⟨b.toArray⟩ = ⟨(a ++ b).toArray⟩ := by
          apply ByteArray.ext
          simp
        simp only [binOp, Op.stringOp, if_neg h1, Sem.run_pure, h2]
      · cases e
    case h_2.eql.refl => exact ⟨_, by simp [binOp, Op.stringOp], rfl⟩
    case h_2.neq.refl => exact ⟨_, by simp [binOp, Op.stringOp], rfl⟩
    case h_2.lss.refl => exact ⟨_, by simp [binOp, Op.stringOp], rfl⟩
  · rename_i hni hns
    have key : ∀ (r : Bool), aequal P 4 t x y = some r → (binOp .eql t X Y).run P w = .ok (.bool r) w ∧ (binOp .neq t X Y).run P w = .ok (.bool (!r)) w := by
      intro r h
      have hrun := equal_run (w := w) h hx hy
      have ho : other X = true := by
        unfold aequal at h
        split at h <;> first
          | (exact (hni _ _ _ _ rfl rfl).elim)
          | (exact (hns _ _ rfl rfl).elim)
          | (cases h; done)
          | skip
        all_goals first
          | (rw [show X = _ from hx]; rfl)
          | (obtain ⟨_, rfl, _⟩ := hx; rfl)
          | (obtain ⟨_, _, rfl, _⟩ := hx; rfl)
          | skip
        all_goals (obtain ⟨_, rfl, _⟩ := slice_RV hx; rfl)
      obtain ⟨h1, h2⟩ := bin_other t X Y ho
      rw [h1, h2]
      simp [hrun]
    cases op <;> simp only at e <;> first | cases e | skip
    all_goals
      split at e
      · rename_i r' h
        cases e
        first
          | exact ⟨_, (key _ h).1, rfl⟩
          | exact ⟨_, (key _ h).2, rfl⟩
      · cases e

theorem un_ok {w : World} {op : UnOp} {x r : AV} {X : Value} (e : aun op x = some r) (hx : RV N x X) : ∃ R, (Op.unary op X).run P w = .ok R w ∧ RV N r R := by
  unfold aun at e
  split at e <;> cases e
  · rw [show X = _ from hx]; exact ⟨_, rfl, rfl⟩
  · rw [show X = _ from hx]; exact ⟨_, by simp [Op.unary, Op.intArith], rfl⟩

end
end Go.Proofs.YtbjaapiliegegaaGreatDoor.Ce
