/- Of the proof of FnNoBody: SaA. -/
import Derived.Test.YtbjaapiliegegaaGreatDoorSa9
set_option linter.unusedVariables false
set_option linter.unusedSimpArgs false
namespace Go.Proofs.YtbjaapiliegegaaGreatDoor.Sy
open Go Go.RowKit
inductive Fr where
 | code (c : Code)
 | endb (id : Nat)
 | ops (all : Array Oper) (l : List Oper)
 | plan (all : Array Oper) (l : Plan) (acc : Acc)
section
variable (P : Program) (w0 : World)
def M : List Fr → AE → Tm → Df → Heap → Post → Prop
 | [], e, tm, df, h, Q => Q e tm df h
 | .code c :: K, .normal, tm, df, h, Q => awp P w0 c tm df h fun e tm df h => M K e tm df h Q
 | .endb id :: K, .exit j, tm, df, h, Q => M K (if j = id then .normal else .exit j) tm df h Q
 | .ops all l :: K, .normal, tm, df, h, Q => opsW P w0 all l tm df h fun tm df h => M K .normal tm df h Q
 | .plan all l acc :: K, .normal, tm, df, h, Q => planW P w0 all l acc tm df h fun tm df h => M K .normal tm df h Q
 | _ :: K, e, tm, df, h, Q => M K e tm df h Q
def condM (v : Value) (A B : List Fr) (tm : Tm) (df : Df) (h : Heap) (Q : Post) : Prop :=
 condW v (M P w0 A .normal tm df h Q) (M P w0 B .normal tm df h Q)
def callM (f : FuncId) (args : List Value) (h : Heap) (dst : Option Tmp) (K : List Fr) (tm : Tm) (df : Df) (Q : Post) : Prop :=
 ACall P w0 f args h fun v h' => M P w0 K .normal (put tm dst v) df h' Q
def callP (f : FuncId) (args : List Value) (h : Heap) (dst : Option Tmp) (acc : Acc) (ks : List Nat) (K : List Fr) (tm : Tm) (df : Df) (Q : Post) : Prop :=
 ACall P w0 f args h fun v h' => keeps P acc h' ks ∧ M P w0 K .normal (put tm dst v) df h' Q
def outM (x : Option Out) (dst : Option Tmp) (K : List Fr) (tm : Tm) (df : Df) (h : Heap) (Q : Post) : Prop :=
 got x fun out => match out with
  | .val v h' => M P w0 K .normal (put tm dst v) df h' Q
  | .call f args => callM P w0 f args h dst K tm df Q
  | .defer fn c a => M P w0 K .normal (put tm dst undef) ((fn, c, a) :: df) h Q
def outP (x : Option Out) (dst : Option Tmp) (acc : Acc) (ks : List Nat) (K : List Fr) (tm : Tm) (df : Df) (h : Heap) (Q : Post) : Prop :=
 got x fun out => match out with
  | .val v h' => keeps P acc h' ks ∧ M P w0 K .normal (put tm dst v) df h' Q
  | .call f args => callP P w0 f args h dst acc ks K tm df Q
  | .defer fn c a => keeps P acc h ks ∧ M P w0 K .normal (put tm dst undef) ((fn, c, a) :: df) h Q
def oneM (ch t : Bool) (all : Array Oper) (o : Oper) (l : List Oper) (K : List Fr) (tm : Tm) (df : Df) (h : Heap) (Q : Post) : Prop :=
 fork t (match ch with
  | true => ∀ c, outM P w0 (aop w0.heap.size P tm h o.op c) o.dst (.ops all l :: K) tm df h Q
  | false => outM P w0 (aop w0.heap.size P tm h o.op 0) o.dst (.ops all l :: K) tm df h Q)
  (M P w0 (.ops all l :: K) .normal (put tm o.dst undef) df h Q)
def valP (x : Option Value) (dst : Option Tmp) (K : List Fr) (tm : Tm) (df : Df) (h : Heap) (Q : Post) : Prop :=
 got x fun v => M P w0 K .normal (put tm dst v) df h Q
def loadP (x : Option Value) (dst : Option Tmp) (all : Array Oper) (l : Plan) (acc : Acc) (i : Nat) (t : TypeId) (b off : Nat) (K : List Fr) (tm : Tm) (df : Df) (h : Heap) (Q : Post) : Prop :=
 got x fun v => M P w0 (.plan all l ((i, t, b, off, v) :: acc) :: K) .normal (put tm dst v) df h Q
def outVal : Option Out → Option Value
 | some (.val v _) => some v
 | _ => none
def oneP (st ld ch t : Bool) (all : Array Oper) (o : Oper) (i : Nat) (ks : List Nat) (l : Plan) (acc : Acc) (K : List Fr) (tm : Tm) (df : Df) (h : Heap) (Q : Post) : Prop :=
 match st, ld, ch with
 | true, _, _ => fork t (valP P w0 (outVal (aop w0.heap.size P tm noBlocks o.op 0)) o.dst (.plan all l acc :: K) tm df h Q) (M P w0 (.plan all l acc :: K) .normal (put tm o.dst undef) df h Q)
 | false, true, _ => fork t (match o.op with
   | .load ty a => match eval tm a with
    | .pointer (some ⟨b, off, none⟩) => loadP P w0 (aload P h ty b off) o.dst all l acc i ty b off K tm df h Q
    | _ => False
   | _ => False) (M P w0 (.plan all l acc :: K) .normal (put tm o.dst undef) df h Q)
 | false, false, true => fork t (∀ c, outP P w0 (aop w0.heap.size P tm h o.op c) o.dst acc ks (.plan all l acc :: K) tm df h Q)
  (keeps P acc h ks ∧ M P w0 (.plan all l acc :: K) .normal (put tm o.dst undef) df h Q)
 | false, false, false => fork t (outP P w0 (aop w0.heap.size P tm h o.op 0) o.dst acc ks (.plan all l acc :: K) tm df h Q)
  (keeps P acc h ks ∧ M P w0 (.plan all l acc :: K) .normal (put tm o.dst undef) df h Q)
end
section
variable {P : Program} {w0 : World} {K : List Fr} {tm : Tm} {df : Df} {h : Heap} {Q : Post}
theorem post_congr {c : Code} {Q Q' : Post} (hq : ∀ e tm df h, Q e tm df h ↔ Q' e tm df h) : awp P w0 c tm df h Q ↔ awp P w0 c tm df h Q' := by
 have : Q = Q' := by funext e tm df h; exact propext (hq e tm df h)
 rw [this]
theorem M_nil (e : AE) : M P w0 [] e tm df h Q ↔ Q e tm df h := Iff.rfl
theorem M_skip : M P w0 (.code .skip :: K) .normal tm df h Q ↔ M P w0 K .normal tm df h Q := Iff.rfl
theorem M_seq (a b : Code) : M P w0 (.code (.seq a b) :: K) .normal tm df h Q ↔ M P w0 (.code a :: .code b :: K) .normal tm df h Q := by
 show awp P w0 a tm df h _ ↔ awp P w0 a tm df h _
 refine post_congr fun e tm df h => ?_
 cases e <;> exact Iff.rfl
theorem M_block (id : Nat) (b : Code) : M P w0 (.code (.block id b) :: K) .normal tm df h Q ↔ M P w0 (.code b :: .endb id :: K) .normal tm df h Q := by
 show awp P w0 b tm df h _ ↔ awp P w0 b tm df h _
 refine post_congr fun e tm df h => ?_
 cases e <;> exact Iff.rfl
theorem M_cond (c : Operand) (a b : Code) : M P w0 (.code (.cond c a b) :: K) .normal tm df h Q ↔ condM P w0 (eval tm c) (.code a :: K) (.code b :: K) tm df h Q := Iff.rfl
theorem M_exit (id : Nat) : M P w0 (.code (.exit id) :: K) .normal tm df h Q ↔ M P w0 K (.exit id) tm df h Q := Iff.rfl
theorem M_ret : M P w0 (.code .ret :: K) .normal tm df h Q ↔ M P w0 K .ret tm df h Q := Iff.rfl
theorem M_region (id : Nat) (ops : Array Oper) : M P w0 (.code (.region id ops false) :: K) .normal tm df h Q ↔ M P w0 (.ops ops ops.toList :: K) .normal tm df h Q := Iff.rfl
theorem M_draw {id : Nat} {ops : Array Oper} (l : Plan) (hl : planAll P ops l = true) (e : M P w0 (.plan ops l [] :: K) .normal tm df h Q) : M P w0 (.code (.region id ops true) :: K) .normal tm df h Q := ⟨l, hl, e⟩
theorem M_endb (id : Nat) : M P w0 (.endb id :: K) .normal tm df h Q ↔ M P w0 K .normal tm df h Q := Iff.rfl
theorem M_endb_exit (id j : Nat) : M P w0 (.endb id :: K) (.exit j) tm df h Q ↔ M P w0 K (if j = id then .normal else .exit j) tm df h Q := Iff.rfl
theorem M_endb_ret (id : Nat) : M P w0 (.endb id :: K) .ret tm df h Q ↔ M P w0 K .ret tm df h Q := Iff.rfl
theorem M_code_exit (c : Code) (j : Nat) : M P w0 (.code c :: K) (.exit j) tm df h Q ↔ M P w0 K (.exit j) tm df h Q := Iff.rfl
theorem M_code_ret (c : Code) : M P w0 (.code c :: K) .ret tm df h Q ↔ M P w0 K .ret tm df h Q := Iff.rfl
theorem M_ops_nil (all : Array Oper) : M P w0 (.ops all [] :: K) .normal tm df h Q ↔ M P w0 K .normal tm df h Q := Iff.rfl
theorem got_congr {α : Type} {x : Option α} {A A' : α → Prop} (hq : ∀ a, A a ↔ A' a) : got x A ↔ got x A' := by
 have : A = A' := by funext a; exact propext (hq a)
 rw [this]
theorem M_ops_cons (all : Array Oper) (o : Oper) (l : List Oper) : M P w0 (.ops all (o :: l) :: K) .normal tm df h Q ↔ oneM P w0 (chooses o.op) (awanted all tm o) all o l K tm df h Q := by
 have key : ∀ c, got (aop w0.heap.size P tm h o.op c) (outW P w0 o tm df h fun tm df h => opsW P w0 all l tm df h fun tm df h => M P w0 K .normal tm df h Q) ↔ outM P w0 (aop w0.heap.size P tm h o.op c) o.dst (.ops all l :: K) tm df h Q := by
  intro c
  refine got_congr fun out => ?_
  cases out <;> exact Iff.rfl
 show oneW P w0 all o tm df h _ ↔ _
 unfold oneW oneM opW fork
 refine and_congr (imp_congr_right fun _ => ?_) Iff.rfl
 cases chooses o.op with
 | true => exact forall_congr' fun c => key c
 | false => exact key 0
theorem M_plan_nil (all : Array Oper) (acc : Acc) : M P w0 (.plan all [] acc :: K) .normal tm df h Q ↔ M P w0 K .normal tm df h Q := Iff.rfl
def stepP (P : Program) (w0 : World) (x : Option Oper) (all : Array Oper) (i : Nat) (ks : List Nat) (l : Plan) (acc : Acc) (K : List Fr) (tm : Tm) (df : Df) (h : Heap) (Q : Post) : Prop :=
 match x with
 | none => False
 | some o => oneP P w0 (still P o.op) (isLoad o.op) (chooses o.op) (awanted all tm o) all o i ks l acc K tm df h Q
theorem stepP_some (o : Oper) (all : Array Oper) (i : Nat) (ks : List Nat) (l : Plan) (acc : Acc) : stepP P w0 (some o) all i ks l acc K tm df h Q ↔ oneP P w0 (still P o.op) (isLoad o.op) (chooses o.op) (awanted all tm o) all o i ks l acc K tm df h Q := Iff.rfl
theorem M_plan_cons (all : Array Oper) (i : Nat) (ks : List Nat) (l : Plan) (acc : Acc) : M P w0 (.plan all ((i, ks) :: l) acc :: K) .normal tm df h Q ↔ stepP P w0 all[i]? all i ks l acc K tm df h Q := by
 show planW P w0 all ((i, ks) :: l) acc tm df h _ ↔ _
 simp only [planW, stepP]
 cases all[i]? with
 | none => exact Iff.rfl
 | some o =>
  simp only
  unfold oneP fork oneW opW fork
  cases hst : still P o.op with
  | true =>
   simp only [if_true]
   refine and_congr (imp_congr_right fun _ => ?_) Iff.rfl
   unfold valP
   cases aop w0.heap.size P tm noBlocks o.op 0 with
   | none => exact Iff.rfl
   | some out => cases out <;> exact Iff.rfl
  | false =>
   simp only [Bool.false_eq_true, if_false]
   cases hld : isLoad o.op with
   | true =>
    simp only [if_true]
    refine and_congr (imp_congr_right fun _ => ?_) Iff.rfl
    cases o.op <;> exact Iff.rfl
   | false =>
    simp only [Bool.false_eq_true, if_false]
    have key : ∀ c, got (aop w0.heap.size P tm h o.op c) (outW P w0 o tm df h fun tm df h' => keeps P acc h' ks ∧ planW P w0 all l acc tm df h' fun tm df h => M P w0 K .normal tm df h Q) ↔ outP P w0 (aop w0.heap.size P tm h o.op c) o.dst acc ks (.plan all l acc :: K) tm df h Q := by
     intro c
     refine got_congr fun out => ?_
     cases out <;> exact Iff.rfl
    cases hch : chooses o.op with
    | true =>
     simp only [if_true]
     exact and_congr (imp_congr_right fun _ => forall_congr' fun c => key c) Iff.rfl
    | false =>
     simp only [Bool.false_eq_true, if_false]
     exact and_congr (imp_congr_right fun _ => key 0) Iff.rfl
theorem fork_true (A B : Prop) : fork true A B ↔ A := by simp [fork]
theorem fork_false (A B : Prop) : fork false A B ↔ B := by simp [fork]
theorem oneM_true (all : Array Oper) (o : Oper) (l : List Oper) : oneM P w0 false true all o l K tm df h Q ↔ outM P w0 (aop w0.heap.size P tm h o.op 0) o.dst (.ops all l :: K) tm df h Q := by simp [oneM, fork]
theorem oneM_ch (all : Array Oper) (o : Oper) (l : List Oper) : oneM P w0 true true all o l K tm df h Q ↔ ∀ c, outM P w0 (aop w0.heap.size P tm h o.op c) o.dst (.ops all l :: K) tm df h Q := by simp [oneM, fork]
theorem oneM_false (ch : Bool) (all : Array Oper) (o : Oper) (l : List Oper) : oneM P w0 ch false all o l K tm df h Q ↔ M P w0 (.ops all l :: K) .normal (put tm o.dst undef) df h Q := by simp [oneM, fork]
theorem oneM_bool {ch t : Bool} {all : Array Oper} {o : Oper} {l : List Oper} (hA : t = true → oneM P w0 ch true all o l K tm df h Q) (hB : t = false → oneM P w0 ch false all o l K tm df h Q) : oneM P w0 ch t all o l K tm df h Q := by
 cases t with
 | true => exact hA rfl
 | false => exact hB rfl
theorem oneP_still (ld ch : Bool) (all : Array Oper) (o : Oper) (i : Nat) (ks : List Nat) (l : Plan) (acc : Acc) : oneP P w0 true ld ch true all o i ks l acc K tm df h Q ↔ valP P w0 (outVal (aop w0.heap.size P tm noBlocks o.op 0)) o.dst (.plan all l acc :: K) tm df h Q := by simp [oneP, fork]
theorem oneP_still_false (ld ch : Bool) (all : Array Oper) (o : Oper) (i : Nat) (ks : List Nat) (l : Plan) (acc : Acc) : oneP P w0 true ld ch false all o i ks l acc K tm df h Q ↔ M P w0 (.plan all l acc :: K) .normal (put tm o.dst undef) df h Q := by simp [oneP, fork]
def readP (P : Program) (w0 : World) (x : Op) (dst : Option Tmp) (all : Array Oper) (l : Plan) (acc : Acc) (i : Nat) (K : List Fr) (tm : Tm) (df : Df) (h : Heap) (Q : Post) : Prop :=
 match x with
 | .load ty a => match eval tm a with
  | .pointer (some ⟨b, off, none⟩) => loadP P w0 (aload P h ty b off) dst all l acc i ty b off K tm df h Q
  | _ => False
 | _ => False
def readV (P : Program) (w0 : World) (v : Value) (ty : TypeId) (dst : Option Tmp) (all : Array Oper) (l : Plan) (acc : Acc) (i : Nat) (K : List Fr) (tm : Tm) (df : Df) (h : Heap) (Q : Post) : Prop :=
 match v with
 | .pointer (some ⟨b, off, none⟩) => loadP P w0 (aload P h ty b off) dst all l acc i ty b off K tm df h Q
 | _ => False
theorem readP_load (ty : TypeId) (a : Operand) (dst : Option Tmp) (all : Array Oper) (l : Plan) (acc : Acc) (i : Nat) : readP P w0 (.load ty a) dst all l acc i K tm df h Q ↔ readV P w0 (eval tm a) ty dst all l acc i K tm df h Q := Iff.rfl
theorem readV_ptr (b off : Nat) (ty : TypeId) (dst : Option Tmp) (all : Array Oper) (l : Plan) (acc : Acc) (i : Nat) : readV P w0 (.pointer (some ⟨b, off, none⟩)) ty dst all l acc i K tm df h Q ↔ loadP P w0 (aload P h ty b off) dst all l acc i ty b off K tm df h Q := Iff.rfl
theorem oneP_load (ch : Bool) (all : Array Oper) (o : Oper) (i : Nat) (ks : List Nat) (l : Plan) (acc : Acc) : oneP P w0 false true ch true all o i ks l acc K tm df h Q ↔ readP P w0 o.op o.dst all l acc i K tm df h Q := by
 simp only [oneP, fork_true]
 exact Iff.rfl
theorem oneP_load_false (ch : Bool) (all : Array Oper) (o : Oper) (i : Nat) (ks : List Nat) (l : Plan) (acc : Acc) : oneP P w0 false true ch false all o i ks l acc K tm df h Q ↔ M P w0 (.plan all l acc :: K) .normal (put tm o.dst undef) df h Q := by simp only [oneP, fork_false]
theorem oneP_do (all : Array Oper) (o : Oper) (i : Nat) (ks : List Nat) (l : Plan) (acc : Acc) : oneP P w0 false false false true all o i ks l acc K tm df h Q ↔ outP P w0 (aop w0.heap.size P tm h o.op 0) o.dst acc ks (.plan all l acc :: K) tm df h Q := by simp only [oneP, fork_true]
theorem oneP_ch (all : Array Oper) (o : Oper) (i : Nat) (ks : List Nat) (l : Plan) (acc : Acc) : oneP P w0 false false true true all o i ks l acc K tm df h Q ↔ ∀ c, outP P w0 (aop w0.heap.size P tm h o.op c) o.dst acc ks (.plan all l acc :: K) tm df h Q := by simp only [oneP, fork_true]
theorem oneP_do_false (ch : Bool) (all : Array Oper) (o : Oper) (i : Nat) (ks : List Nat) (l : Plan) (acc : Acc) : oneP P w0 false false ch false all o i ks l acc K tm df h Q ↔ keeps P acc h ks ∧ M P w0 (.plan all l acc :: K) .normal (put tm o.dst undef) df h Q := by cases ch <;> simp only [oneP, fork_false]
theorem oneP_bool {st ld ch t : Bool} {all : Array Oper} {o : Oper} {i : Nat} {ks : List Nat} {l : Plan} {acc : Acc} (hA : t = true → oneP P w0 st ld ch true all o i ks l acc K tm df h Q) (hB : t = false → oneP P w0 st ld ch false all o i ks l acc K tm df h Q) : oneP P w0 st ld ch t all o i ks l acc K tm df h Q := by
 cases t with
 | true => exact hA rfl
 | false => exact hB rfl
theorem condM_true (A B : List Fr) : condM P w0 (.bool true) A B tm df h Q ↔ M P w0 A .normal tm df h Q := by simp [condM, condW, fork]
theorem condM_false (A B : List Fr) : condM P w0 (.bool false) A B tm df h Q ↔ M P w0 B .normal tm df h Q := by simp [condM, condW, fork]
theorem condM_bool {t : Bool} {A B : List Fr} (hA : t = true → M P w0 A .normal tm df h Q) (hB : t = false → M P w0 B .normal tm df h Q) : condM P w0 (.bool t) A B tm df h Q := ⟨hA, hB⟩
theorem outM_val (v : Value) (h' : Heap) (dst : Option Tmp) : outM P w0 (some (.val v h')) dst K tm df h Q ↔ M P w0 K .normal (put tm dst v) df h' Q := Iff.rfl
theorem outM_call (f : FuncId) (args : List Value) (dst : Option Tmp) : outM P w0 (some (.call f args)) dst K tm df h Q ↔ callM P w0 f args h dst K tm df Q := Iff.rfl
theorem outM_defer (fn : Fn) (c a : List Value) (dst : Option Tmp) : outM P w0 (some (.defer fn c a)) dst K tm df h Q ↔ M P w0 K .normal (put tm dst undef) ((fn, c, a) :: df) h Q := Iff.rfl
theorem outM_ite (p : Prop) [Decidable p] (x : Option Out) (dst : Option Tmp) : outM P w0 (if p then x else none) dst K tm df h Q ↔ p ∧ outM P w0 x dst K tm df h Q := by
 by_cases hp : p
 ·simp [hp]
 ·simp [hp, outM, got]
theorem outP_val (v : Value) (h' : Heap) (dst : Option Tmp) (acc : Acc) (ks : List Nat) : outP P w0 (some (.val v h')) dst acc ks K tm df h Q ↔ keeps P acc h' ks ∧ M P w0 K .normal (put tm dst v) df h' Q := Iff.rfl
theorem outP_call (f : FuncId) (args : List Value) (dst : Option Tmp) (acc : Acc) (ks : List Nat) : outP P w0 (some (.call f args)) dst acc ks K tm df h Q ↔ callP P w0 f args h dst acc ks K tm df Q := Iff.rfl
theorem outP_ite (p : Prop) [Decidable p] (x : Option Out) (dst : Option Tmp) (acc : Acc) (ks : List Nat) : outP P w0 (if p then x else none) dst acc ks K tm df h Q ↔ p ∧ outP P w0 x dst acc ks K tm df h Q := by
 by_cases hp : p
 ·simp [hp]
 ·simp [hp, outP, got]
theorem valP_some (v : Value) (dst : Option Tmp) : valP P w0 (some v) dst K tm df h Q ↔ M P w0 K .normal (put tm dst v) df h Q := Iff.rfl
theorem valP_ite (p : Prop) [Decidable p] (x : Option Value) (dst : Option Tmp) : valP P w0 (if p then x else none) dst K tm df h Q ↔ p ∧ valP P w0 x dst K tm df h Q := by
 by_cases hp : p
 ·simp [hp]
 ·simp [hp, valP, got]
theorem loadP_some (v : Value) (dst : Option Tmp) (all : Array Oper) (l : Plan) (acc : Acc) (i : Nat) (t : TypeId) (b off : Nat) : loadP P w0 (some v) dst all l acc i t b off K tm df h Q ↔ M P w0 (.plan all l ((i, t, b, off, v) :: acc) :: K) .normal (put tm dst v) df h Q := Iff.rfl
theorem loadP_ite (p : Prop) [Decidable p] (x : Option Value) (dst : Option Tmp) (all : Array Oper) (l : Plan) (acc : Acc) (i : Nat) (t : TypeId) (b off : Nat) : loadP P w0 (if p then x else none) dst all l acc i t b off K tm df h Q ↔ p ∧ loadP P w0 x dst all l acc i t b off K tm df h Q := by
 by_cases hp : p
 ·simp [hp]
 ·simp [hp, loadP, got]
theorem v1_some (v : Value) : v1 h (some v) = some (.val v h) := rfl
theorem v1_ite (p : Prop) [Decidable p] (x : Option Value) : v1 h (if p then x else none) = if p then v1 h x else none := by split <;> rfl
theorem v2_some (v : Value) (h' : Heap) : v2 (some (v, h')) = some (.val v h') := rfl
theorem v2_ite (p : Prop) [Decidable p] (x : Option (Value × Heap)) : v2 (if p then x else none) = if p then v2 x else none := by split <;> rfl
theorem v3_some (h' : Heap) : v3 (some h') = some (.val undef h') := rfl
theorem v3_ite (p : Prop) [Decidable p] (x : Option Heap) : v3 (if p then x else none) = if p then v3 x else none := by split <;> rfl
theorem outVal_val (v : Value) (h' : Heap) : outVal (some (.val v h')) = some v := rfl
theorem outVal_ite (p : Prop) [Decidable p] (x : Option Out) : outVal (if p then x else none) = if p then outVal x else none := by split <;> rfl
def tsel (c : Bool) (v : Value) (l : Tm) (t : Nat) : Value :=
 match c with
 | true => v
 | false => tget l t
theorem tget_cons (k : Nat) (v : Value) (l : Tm) (t : Nat) : tget ((k, v) :: l) t = tsel (k == t) v l t := by
 show (if k = t then v else tget l t) = _
 by_cases h : k = t
 ·subst h; simp [tsel]
 ·have : (k == t) = false := by simpa using h
  rw [if_neg h, this]
  rfl
theorem tsel_true (v : Value) (l : Tm) (t : Nat) : tsel true v l t = v := rfl
theorem tsel_false (v : Value) (l : Tm) (t : Nat) : tsel false v l t = tget l t := rfl
theorem put_some (t : Tmp) (v : Value) : put tm (some t) v = (t, v) :: tm := rfl
theorem put_none (v : Value) : put tm none v = tm := rfl
theorem eval_tmp (t : Tmp) : eval tm (.tmp t) = tget tm t := rfl
theorem eval_const (v : Value) : eval tm (.const v) = v := rfl
theorem eval_global (g : Nat) : eval tm (.global g) = ptr g 0 := rfl
theorem eval_func (f : FuncId) : eval tm (.func f) = .func (.func f) #[] #[] := rfl
theorem callM_of {f : FuncId} {args : List Value} {dst : Option Tmp} {R : Value → Heap → Prop} (c : ACall P w0 f args h R) (hR : ∀ v h', R v h' → M P w0 K .normal (put tm dst v) df h' Q) : callM P w0 f args h dst K tm df Q := c.mono hR
theorem callP_of {f : FuncId} {args : List Value} {dst : Option Tmp} {acc : Acc} {ks : List Nat} {R : Value → Heap → Prop} (c : ACall P w0 f args h R) (hR : ∀ v h', R v h' → keeps P acc h' ks ∧ M P w0 K .normal (put tm dst v) df h' Q) : callP P w0 f args h dst acc ks K tm df Q := c.mono hR
theorem got_mono {α : Type} {x : Option α} {A A' : α → Prop} (hq : ∀ a, A a → A' a) (h : got x A) : got x A' := by
 obtain ⟨a, rfl, ha⟩ := got_some h
 exact hq a ha
theorem outW_mono {o : Oper} {K1 K2 : Tm → Df → Heap → Prop} (hq : ∀ tm df h, K1 tm df h → K2 tm df h) {out : Out} (e : outW P w0 o tm df h K1 out) : outW P w0 o tm df h K2 out := by
 cases out with
 | val v h' => exact hq _ _ _ e
 | call f args => exact ACall.mono e fun v h' => hq _ _ _
 | defer fn c a => exact hq _ _ _ e
theorem oneW_mono {all : Array Oper} {o : Oper} {K1 K2 : Tm → Df → Heap → Prop} (hq : ∀ tm df h, K1 tm df h → K2 tm df h) (e : oneW P w0 all o tm df h K1) : oneW P w0 all o tm df h K2 := by
 refine ⟨fun ht => ?_, fun ht => hq _ _ _ (e.2 ht)⟩
 have h1 := e.1 ht
 unfold opW at h1 ⊢
 split at h1
 ·rename_i hc; rw [if_pos hc]; exact fun c => got_mono (fun _ => outW_mono hq) (h1 c)
 ·rename_i hc; rw [if_neg hc]; exact got_mono (fun _ => outW_mono hq) h1
theorem opsW_mono {all : Array Oper} {K1 K2 : Tm → Df → Heap → Prop} (hq : ∀ tm df h, K1 tm df h → K2 tm df h) : ∀ {l : List Oper} {tm : Tm} {df : Df} {h : Heap}, opsW P w0 all l tm df h K1 → opsW P w0 all l tm df h K2
 | [], _, _, _, e => hq _ _ _ e
 | _ :: _, _, _, _, e => oneW_mono (fun _ _ _ => opsW_mono hq) e
theorem planW_mono {all : Array Oper} {K1 K2 : Tm → Df → Heap → Prop} (hq : ∀ tm df h, K1 tm df h → K2 tm df h) : ∀ {l : Plan} {acc : Acc} {tm : Tm} {df : Df} {h : Heap}, planW P w0 all l acc tm df h K1 → planW P w0 all l acc tm df h K2
 | [], _, _, _, _, e => hq _ _ _ e
 | (i, ks) :: l, acc, tm, df, h, e => by
  simp only [planW] at e ⊢
  cases ho : all[i]? with
  | none => rw [ho] at e; exact e
  | some o =>
   rw [ho] at e
   simp only at e ⊢
   split at e
   ·rename_i hst
    rw [if_pos hst]
    refine ⟨fun ht => got_mono (fun out hout => ?_) (e.1 ht), fun ht => planW_mono hq (e.2 ht)⟩
    cases out with
    | val v h' => exact planW_mono hq hout
    | call f args => exact hout
    | defer fn c a => exact hout
   ·rename_i hst
    rw [if_neg hst]
    split at e
    ·rename_i hl
     rw [if_pos hl]
     refine ⟨fun ht => ?_, fun ht => planW_mono hq (e.2 ht)⟩
     have h1 := e.1 ht
     split at h1
     ·split at h1
      ·exact got_mono (fun v hv => planW_mono hq hv) h1
      ·exact h1.elim
     ·exact h1.elim
    ·rename_i hl
     rw [if_neg hl]
     exact oneW_mono (fun tm df h' ⟨a, b⟩ => ⟨a, planW_mono hq b⟩) e
theorem iterW_mono {f : Tm → Df → Heap → Post → Prop} (hf : ∀ (Q Q' : Post) (tm : Tm) (df : Df) (h : Heap), (∀ e tm df h, Q e tm df h → Q' e tm df h) → f tm df h Q → f tm df h Q') {Q Q' : Post} (hq : ∀ e tm df h, Q e tm df h → Q' e tm df h) :
  ∀ (n : Nat) (tm : Tm) (df : Df) (h : Heap), iterW f n tm df h Q → iterW f n tm df h Q'
 | 0, _, _, _, e => e
 | n + 1, tm, df, h, e => hf _ _ _ _ _ (fun e tm df h he => by
   cases e with
   | normal => exact iterW_mono hf hq n _ _ _ he
   | exit j => exact hq _ _ _ _ he
   | ret => exact hq _ _ _ _ he) e
theorem awp_mono : ∀ {c : Code} {Q Q' : Post} {tm : Tm} {df : Df} {h : Heap}, (∀ e tm df h, Q e tm df h → Q' e tm df h) → awp P w0 c tm df h Q → awp P w0 c tm df h Q' := by
 intro c
 induction c with
 | skip => intro Q Q' tm df h hq e; exact hq _ _ _ _ e
 | label l => intro Q Q' tm df h hq e; exact hq _ _ _ _ e
 | exit id => intro Q Q' tm df h hq e; exact hq _ _ _ _ e
 | ret => intro Q Q' tm df h hq e; exact hq _ _ _ _ e
 | region id ops d =>
  intro Q Q' tm df h hq e
  cases d with
  | false => exact opsW_mono (hq _) (show opsW P w0 ops ops.toList tm df h (Q .normal) from e)
  | true =>
   obtain ⟨l, hl, hp⟩ : ∃ l, planAll P ops l = true ∧ planW P w0 ops l [] tm df h (Q .normal) := e
   exact ⟨l, hl, planW_mono (hq _) hp⟩
 | seq x y ihx ihy =>
  intro Q Q' tm df h hq e
  refine ihx (fun e tm df h he => ?_) e
  cases e with
  | normal => exact ihy hq he
  | exit j => exact hq _ _ _ _ he
  | ret => exact hq _ _ _ _ he
 | cond c x y ihx ihy =>
  intro Q Q' tm df h hq e
  have e' : condW (eval tm c) (awp P w0 x tm df h Q) (awp P w0 y tm df h Q) := e
  show condW (eval tm c) (awp P w0 x tm df h Q') (awp P w0 y tm df h Q')
  unfold condW at e' ⊢
  split at e'
  ·exact ⟨fun ht => ihx hq (e'.1 ht), fun ht => ihy hq (e'.2 ht)⟩
  ·exact e'.elim
 | block id b ih =>
  intro Q Q' tm df h hq e
  refine ih (fun e tm df h he => ?_) e
  cases e with
  | normal => exact hq _ _ _ _ he
  | exit j => exact hq _ _ _ _ he
  | ret => exact hq _ _ _ _ he
 | loop b ih =>
  intro Q Q' tm df h hq e
  obtain ⟨n, hn⟩ : ∃ n, iterW (awp P w0 b) n tm df h Q := e
  exact ⟨n, iterW_mono (f := awp P w0 b) (fun _ _ _ _ _ hq' e' => ih hq' e') hq n _ _ _ hn⟩
 | rangeFunc => intro Q Q' tm df h _ e; exact e.elim
 | scope => intro Q Q' tm df h _ e; exact e.elim
 | goto => intro Q Q' tm df h _ e; exact e.elim
 | refuse => intro Q Q' tm df h _ e; exact e.elim
theorem M_loop {b : Code} (I : Tm → Heap → Nat → Prop) (n : Nat) (h0 : I tm h n)
  (hb : ∀ (tm : Tm) (h : Heap) (n : Nat) (R : Post), I tm h n → (∀ tm' h' m, m < n → I tm' h' m → R .normal tm' df h') → (∀ e tm' df' h', e ≠ .normal → M P w0 K e tm' df' h' Q → R e tm' df' h') → M P w0 [.code b] .normal tm df h R) :
  M P w0 (.code (.loop b) :: K) .normal tm df h Q := by
 have mono : ∀ (k : Nat) (tm : Tm) (df : Df) (h : Heap) (R : Post), iterW (awp P w0 b) k tm df h R → iterW (awp P w0 b) (k + 1) tm df h R := by
  intro k
  induction k with
  | zero => intro tm df h R e; exact e.elim
  | succ k ihk =>
   intro tm df h R e
   refine awp_mono (fun e tm df h he => ?_) (show awp P w0 b tm df h _ from e)
   cases e with
   | normal => exact ihk _ _ _ _ he
   | exit j => exact he
   | ret => exact he
 have more : ∀ (d k : Nat) (tm : Tm) (df : Df) (h : Heap) (R : Post), iterW (awp P w0 b) k tm df h R → iterW (awp P w0 b) (k + d) tm df h R := by
  intro d
  induction d with
  | zero => intro k tm df h R e; exact e
  | succ d ih => intro k tm df h R e; exact mono _ _ _ _ _ (ih k tm df h R e)
 have key : ∀ (n : Nat) (tm : Tm) (h : Heap), I tm h n → iterW (awp P w0 b) (n + 1) tm df h fun e tm df h => M P w0 K e tm df h Q := by
  intro n
  induction n using Nat.strongRecOn with
  | _ n ih =>
   intro tm h hI
   refine hb tm h n _ hI (fun tm' h' m hm hI' => ?_) (fun e tm' df' h' he hM => ?_)
   ·have h1 := more (n - (m + 1)) (m + 1) _ _ _ _ (ih m hm tm' h' hI')
    rw [show m + 1 + (n - (m + 1)) = n by omega] at h1
    exact h1
   ·cases e with
    | normal => exact (he rfl).elim
    | exit j => exact hM
    | ret => exact hM
 exact ⟨n + 1, key n tm h h0⟩
theorem M_cut {A : Code} (J : Tm → Heap → Prop)
  (hA : ∀ R : Post, (∀ tm' h', J tm' h' → R .normal tm' df h') → (∀ e tm' df' h', e ≠ .normal → M P w0 K e tm' df' h' Q → R e tm' df' h') → M P w0 [.code A] .normal tm df h R)
  (hK : ∀ tm' h', J tm' h' → M P w0 K .normal tm' df h' Q) : M P w0 (.code A :: K) .normal tm df h Q := by
 refine hA _ (fun tm' h' hJ => hK tm' h' hJ) (fun e tm' df' h' he hM => ?_)
 exact hM
theorem ACall.run (hng : NoCount P) (hmix : P.follows .mixedOrders = true) {f : FuncId} {F : Func} {c : Code} (hf : P.funcs[f]? = some F) (hb : F.body = some c) (hfit : fitsCode F.ntmps c = true) {args : List Value} (hl : args.length ≤ F.ntmps) {Q : Value → Heap → Prop}
  (e : ∀ R : Post, (∀ e tm h', (∀ j, e ≠ .exit j) → (got (resOf P tm h' F.results.toList) fun vs => Q (pack vs) h') → R e tm [] h') → M P w0 [.code c] .normal (slots 0 args) [] h R) : ACall P w0 f args h Q := by
 refine ACall.intro hng hmix hf hb hfit hl (e _ fun e tm h' he hr => ?_)
 cases e with
 | normal => exact ⟨fun x hx => (by cases hx), hr⟩
 | exit j => exact (he j rfl).elim
 | ret => exact ⟨fun x hx => (by cases hx), hr⟩
theorem ACall.runD (hng : NoCount P) (hmix : P.follows .mixedOrders = true) {f : FuncId} {F : Func} {c : Code} (hf : P.funcs[f]? = some F) (hb : F.body = some c) (hfit : fitsCode F.ntmps c = true) {args : List Value} (hl : args.length ≤ F.ntmps) {Q : Value → Heap → Prop}
  (e : ∀ R : Post, (∀ e tm df h', (∀ j, e ≠ .exit j) → (∀ x ∈ df, ∀ g, x.1 = .func g → ∃ F, P.funcs[g]? = some F ∧ F.body ≠ none) → (defsW P w0 df h' fun h' => got (resOf P tm h' F.results.toList) fun vs => Q (pack vs) h') → R e tm df h') → M P w0 [.code c] .normal (slots 0 args) [] h R) : ACall P w0 f args h Q := by
 refine ACall.intro hng hmix hf hb hfit hl (e _ fun e tm df h' he hd hr => ?_)
 cases e with
 | normal => exact ⟨hd, hr⟩
 | exit j => exact (he j rfl).elim
 | ret => exact ⟨hd, hr⟩
end
end Go.Proofs.YtbjaapiliegegaaGreatDoor.Sy
