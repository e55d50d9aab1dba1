/- The walk of the program's isValidWildcardName at names of ASCII. -/
import Derived.Test.YtmkbkpeccddejaaDoorA3
import Derived.Test.YtmkbkpeccddejaaDoorShelf
namespace Go.Proofs.YtmkbkpeccddejaaDoor
open Go.RowKit
set_option linter.unusedVariables false
set_option linter.unusedSimpArgs false

/-- The table of properties of Latin-1 is laid. -/
def Props (w : World) : Prop := Lib.TabIs Tryd.prog w "unicode.properties" .u8 Lib.propertiesTab
theorem props_global : Tryd.prog.globalNamed "unicode.properties" = some 0 := by kernel_rfl
theorem Props.pos {w : World} (h : Props w) : 0 < w.heap.size := by
  unfold Props Lib.TabIs World.var? at h
  rw [props_global] at h
  rcases Nat.eq_zero_or_pos w.heap.size with h0 | h0
  · rw [Option.bind_some, Array.getElem?_eq_none (by omega)] at h
    simp at h
  · exact h0
theorem Props.below {B : Nat} {w w' : World} (h : Props w) (hB : 0 < B) (hb : Below B w w') : Props w' := var?_below hb props_global hB h
theorem Props.later {w w' : World} (h : Props w) (hb : Below w.heap.size w w') : Props w' := h.below h.pos hb

theorem letter_yes (c : Int) (w : World) (hp : Props w) (hc : (65 ≤ c ∧ c ≤ 90) ∨ (97 ≤ c ∧ c ≤ 122)) :
    Calls Tryd.prog 50 #[.int .i32 c] w fun e w' => e = .returned (.bool true) ∧ w = w' := by
  have h := Tryd.unicode_IsLetter_laid c.toNat w (by omega) hp
  rw [show ((c.toNat : Nat) : Int) = c by omega] at h
  refine h.mono ?_
  rintro e w' ⟨rfl, rfl⟩
  refine ⟨?_, rfl⟩
  have : Lib.isLetterL c = true := by unfold Lib.isLetterL Lib.isUpperL Lib.isLowerL; simp; omega
  rw [this]

theorem letter_no (c : Int) (w : World) (hp : Props w) (hc : c = 95 ∨ (48 ≤ c ∧ c ≤ 57)) :
    Calls Tryd.prog 50 #[.int .i32 c] w fun e w' => e = .returned (.bool false) ∧ w = w' := by
  have h := Tryd.unicode_IsLetter_laid c.toNat w (by omega) hp
  rw [show ((c.toNat : Nat) : Int) = c by omega] at h
  refine h.mono ?_
  rintro e w' ⟨rfl, rfl⟩
  refine ⟨?_, rfl⟩
  have : Lib.isLetterL c = false := by unfold Lib.isLetterL Lib.isUpperL Lib.isLowerL; simp; omega
  rw [this]

theorem digit_yes (c : Int) (w : World) (hc : 48 ≤ c ∧ c ≤ 57) :
    Calls Tryd.prog 51 #[.int .i32 c] w fun e w' => e = .returned (.bool true) ∧ w = w' := by
  refine (Tryd.unicode_IsDigit c w (by omega)).mono ?_
  rintro e w' ⟨rfl, rfl⟩
  refine ⟨?_, rfl⟩
  have : Lib.isDigitL c = true := by unfold Lib.isDigitL; simp; omega
  rw [this]

/-- What a name is made of, at each place. -/
def nameAt (k : Nat) (c : Int) : Prop := c = 95 ∨ (65 ≤ c ∧ c ≤ 90) ∨ (97 ≤ c ∧ c ≤ 122) ∨ (k ≠ 0 ∧ 48 ≤ c ∧ c ≤ 57)

set_option maxHeartbeats 1000000 in
theorem validName_yes (s : ByteArray) (w : World) (hs : s.size ≤ 2147483647) (h0 : 0 < s.size) (hn : ∀ k, k < s.size → nameAt k (byt s k)) (hp : Props w) :
    Calls Tryd.prog 42 #[.string s] w fun e w' => e = .returned (.bool true) ∧ Below w.heap.size w w' := by
  have HN := Lib.hid hn; have HP := Lib.hid hp; have h0w := hp.pos
  have he := notEmpty_of_pos h0
  clear hn hp
  go_enter Tryd.func42, Tryd.ntmps42
  go_wp2
  go_loopw [3, 4] (fun _ _ wr => ∃ p : Nat, p ≤ s.size ∧ wr.heap[w.heap.size]? = some (.stringIter s p) ∧ Below w.heap.size w wr) (fun _ _ wr => s.size - wr.iterPos w.heap.size)
  case atStart => exact ⟨0, by omega, World.iter_heap _ _ _, (Below.refl _ _).alloc (Nat.le_refl _) _⟩
  case round =>
    obtain ⟨p, hpl, hk0, hb⟩ := hrel
    have hip := iterPos_of hk0
    by_cases hlt : p < s.size
    · have hx := byt_at s p hlt
      have hc1 := HN.out p hlt
      obtain ⟨c, hc⟩ : ∃ c, c = byt s p := ⟨_, rfl⟩
      rw [← hc] at hx hc1
      clear hc
      have hlo : 0 ≤ c ∧ c < 128 := by unfold nameAt at hc1; omega
      obtain ⟨W1, hW1⟩ : ∃ W1 : World, W1 = wr.iterAt w.heap.size s (p + 1) := ⟨_, rfl⟩
      have hnx : ∀ ty, (Instr.next (.pointer (some ⟨w.heap.size, 0, none⟩)) true ty).run Tryd.prog wr = .ok (.tuple #[.bool true, .int .i64 p, .int .i32 c]) W1 := fun ty => by
        have := Lib.run_next_ascii_at (P := Tryd.prog) wr _ s p ty hk0 hlt (by omega)
        rw [hx] at this
        rw [hW1]
        exact this
      have hk1 : W1.heap[w.heap.size]? = some (.stringIter s (p + 1)) := by rw [hW1]; exact Lib.iterAt_heap _ _ _ _ _ hk0
      have hb1 : Below w.heap.size w W1 := by rw [hW1]; exact Lib.below_iterAt hb (Nat.le_refl _) _ _
      have HP1 := Lib.hid (HP.out.later hb1)
      have Hip := Lib.hid hip
      have rel : ∃ p' : Nat, p' ≤ s.size ∧ W1.heap[w.heap.size]? = some (.stringIter s p') ∧ Below w.heap.size w W1 := ⟨p + 1, by omega, hk1, hb1⟩
      have Rel := Lib.hid rel
      clear hW1 hb hip hx rel
      by_cases hl : (65 ≤ c ∧ c ≤ 90) ∨ (97 ≤ c ∧ c ≤ 122)
      · have Hl := Lib.hid hl
        clear hl hc1
        go_wp2_with (go_at_call 50; refine (letter_yes c _ HP1.out Hl.out).mono ?_; rintro e w1 ⟨rfl, rfl⟩)
        go_roundw
        case rel => exact Rel.out
        case measure => rw [Hip.out, iterPos_of hk1]; omega
      · by_cases h95 : c = 95
        · subst h95
          clear hl hc1
          go_wp2_with (go_at_call 50; refine (letter_no 95 _ HP1.out (Or.inl rfl)).mono ?_; rintro e w1 ⟨rfl, rfl⟩)
          go_roundw
          case rel => exact Rel.out
          case measure => rw [Hip.out, iterPos_of hk1]; omega
        · have hd : p ≠ 0 ∧ 48 ≤ c ∧ c ≤ 57 := by unfold nameAt at hc1; omega
          obtain ⟨hp0, hd⟩ := hd
          have Hd := Lib.hid hd
          have e95 : (c == 95) = false := beq_eq_false_iff_ne.2 h95
          have n95 : (c != 95) = true := by rw [bne_iff_ne]; exact h95
          have e0 : ((p : Int) == 0) = false := beq_eq_false_iff_ne.2 (by omega)
          clear hl hc1 hd h95 hp0
          go_wp2_with (first
            | (go_at_call 50; refine (letter_no c _ HP1.out (Or.inr Hd.out)).mono ?_; rintro e w1 ⟨rfl, rfl⟩)
            | (go_at_call 51; refine (digit_yes c _ Hd.out).mono ?_; rintro e w1 ⟨rfl, rfl⟩))
          go_roundw
          case rel => exact Rel.out
          case measure => rw [Hip.out, iterPos_of hk1]; omega
    · have hnx : ∀ ty, (Instr.next (.pointer (some ⟨w.heap.size, 0, none⟩)) true ty).run Tryd.prog wr = .ok (.tuple #[.bool false]) wr := fun ty => Lib.run_next_end_at wr _ s p ty hk0 hlt
      go_wp2
      go_ret
      exact ⟨rfl, hb⟩
end Go.Proofs.YtmkbkpeccddejaaDoor
