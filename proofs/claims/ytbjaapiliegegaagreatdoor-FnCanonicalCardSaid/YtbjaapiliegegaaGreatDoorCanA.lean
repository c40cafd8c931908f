/- The canonical form of a header's key: the plain law. -/
import Derived.KernelRfl
namespace Go.Proofs.YtbjaapiliegegaaGreatDoor

def upB (b : UInt8) : UInt8 := if 97 ≤ b.toNat ∧ b.toNat ≤ 122 then b - 32 else b
def lowB' (b : UInt8) : UInt8 := if 65 ≤ b.toNat ∧ b.toNat ≤ 90 then b + 32 else b

/-- Upper at the start and behind a dash, else lower. -/
def canonL : Bool → List UInt8 → List UInt8
  | _, [] => []
  | u, b :: l => (if u then upB b else lowB' b) :: canonL (b == 45) l

def byteLaw (b : UInt8) : Bool :=
  upB (upB b) == upB b && lowB' (lowB' b) == lowB' b && upB (lowB' b) == upB b && ((upB b == 45) == (b == 45)) && ((lowB' b == 45) == (b == 45))

theorem byte_all : (List.range 256).all (fun n => byteLaw (UInt8.ofNat n)) = true := by kernel_rfl

theorem byte_law (b : UInt8) : upB (upB b) = upB b ∧ lowB' (lowB' b) = lowB' b ∧ upB (lowB' b) = upB b ∧ (upB b == 45) = (b == 45) ∧ (lowB' b == 45) = (b == 45) := by
  have := List.all_eq_true.1 byte_all b.toNat (List.mem_range.2 b.toNat_lt)
  simp only [UInt8.ofNat_toNat, byteLaw, Bool.and_eq_true] at this
  obtain ⟨⟨⟨⟨h1, h2⟩, h3⟩, h4⟩, h5⟩ := this
  exact ⟨eq_of_beq h1, eq_of_beq h2, eq_of_beq h3, eq_of_beq h4, eq_of_beq h5⟩

theorem canon_idem : ∀ (l : List UInt8) (u : Bool), canonL u (canonL u l) = canonL u l
  | [], _ => rfl
  | b :: l, u => by
    obtain ⟨h1, h2, _, h4, h5⟩ := byte_law b
    cases u <;> simp [canonL, h1, h2, h4, h5, canon_idem l]

theorem canon_lower : ∀ (l : List UInt8) (u : Bool), canonL u (l.map lowB') = canonL u l
  | [], _ => rfl
  | b :: l, u => by
    obtain ⟨_, h2, h3, _, h5⟩ := byte_law b
    cases u <;> simp [canonL, h2, h3, h5, canon_lower l]

theorem canon_len : ∀ (l : List UInt8) (u : Bool), (canonL u l).length = l.length
  | [], _ => rfl
  | _ :: l, _ => by simp [canonL, canon_len l]

/-- The flag behind k bytes, from a first flag. -/
def flagFrom (u : Bool) (l : List UInt8) : Nat → Bool
  | 0 => u
  | k + 1 => l.getD k 0 == 45

theorem canon_at : ∀ (l : List UInt8) (u : Bool) (k : Nat), k < l.length → (canonL u l)[k]? = some (if flagFrom u l k then upB (l.getD k 0) else lowB' (l.getD k 0))
  | [], _, _, h => by simp at h
  | b :: l, u, 0, _ => by simp [canonL, flagFrom]
  | b :: l, u, k + 1, h => by
    have h' : k < l.length := by simpa using h
    simp only [canonL, List.getElem?_cons_succ]
    rw [canon_at l (b == 45) k h']
    cases k <;> simp [flagFrom]

/-- One byte put in its place. -/
theorem canon_step (l : List UInt8) (u : Bool) (k : Nat) (h : k < l.length) {c : UInt8} (hc : (canonL u l)[k]? = some c) :
    ((canonL u l).take k ++ l.drop k).set k c = (canonL u l).take (k + 1) ++ l.drop (k + 1) := by
  have hk : ((canonL u l).take k).length = k := by rw [List.length_take, canon_len]; omega
  rw [List.set_append_right _ _ (by omega), hk, Nat.sub_self, List.drop_eq_getElem_cons h, List.set_cons_zero, List.take_add_one, hc]
  simp
end Go.Proofs.YtbjaapiliegegaaGreatDoor
