/- Plain words for the walks: bytes of a string, and answers that are bools. -/
import Derived.Test.YtmkbkpeccddejaaDoorProg
import Derived.WalkKit
import Derived.WalkSpells
import Derived.WalkLawsBesides
import Derived.Lib.Hide
import Derived.Lib.Strings
import Derived.Deep.Light
namespace Go.Proofs.YtmkbkpeccddejaaDoor
open Go.RowKit
set_option linter.unusedVariables false
set_option linter.unusedSimpArgs false

/-- Byte k of a string, as a number. -/
def byt (s : ByteArray) (k : Nat) : Int := if h : k < s.size then ((s[k]'h).toNat : Int) else 0
theorem byt_at (s : ByteArray) (k : Nat) : ∀ h : k < s.size, ((s[k]'h).toNat : Int) = byt s k := fun h => by simp [byt, h]
theorem byt_range (s : ByteArray) (k : Nat) : 0 ≤ byt s k ∧ byt s k ≤ 255 := by
  unfold byt
  split
  · have := (s[k]).toNat_lt; omega
  · omega

/-- A bool is returned, and where it is true something holds; the world has not changed. -/
def SaysIf (P : Prop) (w : World) (e : Ending) (w' : World) : Prop := ∃ b : Bool, e = .returned (.bool b) ∧ (b = true → P) ∧ w = w'

theorem says_no (P : Prop) (w : World) : SaysIf P w (.returned (.bool false)) w := ⟨false, rfl, (fun h => by cases h), rfl⟩
theorem says_if {P : Prop} (w : World) {b : Bool} (h : b = true → P) : SaysIf P w (.returned (.bool b)) w := ⟨b, rfl, h, rfl⟩

theorem hid_step {P : Nat → Prop} {k : Nat} (h : Hid (∀ j, j < k → P j)) (hk : P k) : Hid (∀ j, j < k + 1 → P j) := fun j hj => by
  rcases Nat.lt_or_ge j k with h1 | h1
  · exact h.out j h1
  · have : j = k := by omega
    subst this; exact hk


theorem pos_of_notEmpty {s : ByteArray} (h : (!s.toList.isEmpty) = true) : 0 < s.size := by
  rw [Lib.toList_data] at h
  rw [Lib.size_eq]
  cases hl : s.data.toList with
  | nil => rw [hl] at h; cases h
  | cons a l => simp
theorem notEmpty_of_pos {s : ByteArray} (h : 0 < s.size) : s.toList.isEmpty = false := by
  rw [Lib.toList_data]
  rw [Lib.size_eq] at h
  cases hl : s.data.toList with
  | nil => rw [hl] at h; simp at h
  | cons a l => rfl
end Go.Proofs.YtmkbkpeccddejaaDoor
