/- The walks of the program's loops in the place of IndexAny and TrimLeft, at the set of blank and tab. -/
import Derived.Test.YtmkbkpeccddejaaDoorA0
import Derived.WalkSmall
namespace Go.Proofs.YtmkbkpeccddejaaDoor
open Go.RowKit
set_option linter.unusedVariables false
set_option linter.unusedSimpArgs false

/-- Blank and tab. -/
def blanks : ByteArray := ⟨#[32, 9]⟩
theorem blanks_size : blanks.size = 2 := rfl

theorem inSet_no (c : Int) (w : World) (h32 : (c == 32) = false) (h9 : (c == 9) = false) :
    Calls Tryd.prog 44 #[.int .i32 c, .string blanks] w fun e w' => e = .returned (.bool false) ∧ Below w.heap.size w w' := by
  go_enter Tryd.func44, Tryd.ntmps44
  go_wp2
  go_loopw [6] (fun _ wr => ∃ p : Nat, p ≤ 2 ∧ wr.heap[w.heap.size]? = some (.stringIter blanks p) ∧ Below w.heap.size w wr) (fun _ wr => 2 - wr.iterPos w.heap.size)
  case atStart => exact ⟨0, by omega, World.iter_heap _ _ _, (Below.refl _ _).alloc (Nat.le_refl _) _⟩
  case round =>
    obtain ⟨p, hp, hk, hb⟩ := hrel
    have hip := iterPos_of hk
    rcases (by omega : p = 0 ∨ p = 1 ∨ p = 2) with rfl | rfl | rfl
    · have hnx : ∀ ty, (Instr.next (.pointer (some ⟨w.heap.size, 0, none⟩)) true ty).run Tryd.prog wr = .ok (.tuple #[.bool true, .int .i64 0, .int .i32 32]) (wr.iterAt w.heap.size blanks 1) := fun ty => Lib.run_next_ascii_at wr _ blanks 0 ty hk (by decide) (by decide)
      go_wp2
      go_roundw
      case rel => exact ⟨1, by omega, Lib.iterAt_heap _ _ _ _ _ hk, Lib.below_iterAt hb (Nat.le_refl _) _ _⟩
      case measure => rw [hip, iterPos_of (Lib.iterAt_heap _ _ _ _ _ hk)]; omega
    · have hnx : ∀ ty, (Instr.next (.pointer (some ⟨w.heap.size, 0, none⟩)) true ty).run Tryd.prog wr = .ok (.tuple #[.bool true, .int .i64 1, .int .i32 9]) (wr.iterAt w.heap.size blanks 2) := fun ty => Lib.run_next_ascii_at wr _ blanks 1 ty hk (by decide) (by decide)
      go_wp2
      go_roundw
      case rel => exact ⟨2, by omega, Lib.iterAt_heap _ _ _ _ _ hk, Lib.below_iterAt hb (Nat.le_refl _) _ _⟩
      case measure => rw [hip, iterPos_of (Lib.iterAt_heap _ _ _ _ _ hk)]; omega
    · have hnx : ∀ ty, (Instr.next (.pointer (some ⟨w.heap.size, 0, none⟩)) true ty).run Tryd.prog wr = .ok (.tuple #[.bool false]) wr := fun ty => Lib.run_next_end_at wr _ blanks 2 ty hk (by decide)
      go_wp2
      go_ret
      exact ⟨rfl, hb⟩

/-- TrimLeft of blanks and tabs: a text that begins with neither stays. -/
theorem trimLeft_same (s : ByteArray) (w : World) (hs : s.size ≤ 2147483647) (h0 : 0 < s.size) (ha : byt s 0 < 128) (h32 : (byt s 0 == 32) = false) (h9 : (byt s 0 == 9) = false) :
    Calls Tryd.prog 36 #[.string s, .string blanks] w fun e w' => e = .returned (.string s) ∧ Below w.heap.size w w' := by
  obtain ⟨c, hc⟩ : ∃ c, c = byt s 0 := ⟨_, rfl⟩
  have hx : ((s[0]'h0).toNat : Int) = c := by rw [hc]; exact byt_at s 0 h0
  rw [← hc] at ha h32 h9
  clear hc
  have hnx0 : ∀ ty, (Instr.next (.pointer (some ⟨w.heap.size, 0, none⟩)) true ty).run Tryd.prog (w.iter s 0) = .ok (.tuple #[.bool true, .int .i64 0, .int .i32 c]) (w.iter s 1) := fun ty => by
    have := run_next_ascii (P := Tryd.prog) w s 0 ty h0 (by omega)
    rw [hx] at this
    exact this
  have hsl : s.extract 0 s.size = s := by simp
  go_enter Tryd.func36, Tryd.ntmps36
  go_wp2
  refine wp_loop_rounds 1 ?_; rw [rounds_succ]
  go_wp2_with (go_at_call 44; refine (inSet_no c _ h32 h9).mono ?_; rintro e w1 ⟨rfl, hb⟩)
  go_ret
  exact ⟨by first | rfl | (simp [hsl]), (((Below.refl w.heap.size w).alloc (Nat.le_refl _) _).trans (hb.mono (by show w.heap.size ≤ (w.alloc _).heap.size; simp)))⟩

/-- Where the first blank or tab of an ASCII text stands: at k, or nowhere. -/
def AnyPost (s : ByteArray) (k : Nat) (w : World) (e : Ending) (w' : World) : Prop :=
  e = .returned (.int .i64 (if k < s.size then (k : Int) else -1)) ∧ Below w.heap.size w w'

set_option maxHeartbeats 1000000 in
theorem indexAny_at (s : ByteArray) (k : Nat) (w : World) (hs : s.size ≤ 2147483647) (hk : k ≤ s.size) (ha : ∀ j, j < s.size → byt s j < 128)
    (hno : ∀ j, j < k → byt s j ≠ 32 ∧ byt s j ≠ 9) (hat : k < s.size → byt s k = 32) :
    Calls Tryd.prog 35 #[.string s, .string blanks] w (AnyPost s k w) := by
  have HA := Lib.hid ha; have HN := Lib.hid hno; have HT := Lib.hid hat
  clear ha hno hat
  go_enter Tryd.func35, Tryd.ntmps35
  go_wp2
  go_loopw [5, 6, 8] (fun _ _ _ wr => ∃ p : Nat, p ≤ k ∧ wr.heap[w.heap.size]? = some (.stringIter s p) ∧ Below w.heap.size w wr) (fun _ _ _ wr => s.size - wr.iterPos w.heap.size)
  case atStart => exact ⟨0, by omega, World.iter_heap _ _ _, (Below.refl _ _).alloc (Nat.le_refl _) _⟩
  case round =>
    obtain ⟨p, hp, hk0, hb⟩ := hrel
    have hip := iterPos_of hk0
    by_cases hlt : p < s.size
    · have hx := byt_at s p hlt
      have hc1 := HA.out p hlt
      obtain ⟨c, hc⟩ : ∃ c, c = byt s p := ⟨_, rfl⟩
      rw [← hc] at hx hc1
      have hr := (byt_range s p).1
      rw [← hc] at hr
      obtain ⟨W1, hW1⟩ : ∃ W1 : World, W1 = wr.iterAt w.heap.size s (p + 1) := ⟨_, rfl⟩
      have hnx : ∀ ty, (Instr.next (.pointer (some ⟨w.heap.size, 0, none⟩)) true ty).run Tryd.prog wr = .ok (.tuple #[.bool true, .int .i64 p, .int .i32 c]) W1 := fun ty => by
        have := Lib.run_next_ascii_at (P := Tryd.prog) wr _ s p ty hk0 hlt (by omega)
        rw [hx] at this
        rw [hW1]
        exact this
      have hk1 : W1.heap[w.heap.size]? = some (.stringIter s (p + 1)) := by rw [hW1]; exact Lib.iterAt_heap _ _ _ _ _ hk0
      have hb1 : Below w.heap.size w W1 := by rw [hW1]; exact Lib.below_iterAt hb (Nat.le_refl _) _ _
      have hz1 : w.heap.size < W1.heap.size := (Array.getElem?_eq_some_iff.1 hk1).1
      have Hip := Lib.hid hip
      clear hW1 hb hip
      by_cases hpk : p < k
      · have h32 : (c == 32) = false := beq_eq_false_iff_ne.2 (by rw [hc]; exact (HN.out p hpk).1)
        have h9 : (c == 9) = false := beq_eq_false_iff_ne.2 (by rw [hc]; exact (HN.out p hpk).2)
        clear hc
        go_wp2
        clear hnx hk0
        go_loopw [8] (fun _ wi => ∃ q : Nat, q ≤ 2 ∧ wi.heap[W1.heap.size]? = some (.stringIter blanks q) ∧ Below W1.heap.size W1 wi) (fun _ wi => 2 - wi.iterPos W1.heap.size)
        case atStart => exact ⟨0, by omega, World.iter_heap _ _ _, (Below.refl _ _).alloc (Nat.le_refl _) _⟩
        case round =>
          rename_i wi _
          obtain ⟨q, hq, hkq, hbq⟩ := hrel
          have hiq := iterPos_of hkq
          rcases (by omega : q = 0 ∨ q = 1 ∨ q = 2) with rfl | rfl | rfl
          · have hin : ∀ ty, (Instr.next (.pointer (some ⟨W1.heap.size, 0, none⟩)) true ty).run Tryd.prog wr = .ok (.tuple #[.bool true, .int .i64 0, .int .i32 32]) (wr.iterAt W1.heap.size blanks 1) := fun ty => Lib.run_next_ascii_at wr _ blanks 0 ty hkq (by decide) (by decide)
            go_wp2
            go_roundw
            case rel => exact ⟨1, by omega, Lib.iterAt_heap _ _ _ _ _ hkq, Lib.below_iterAt hbq (Nat.le_refl _) _ _⟩
            case measure => rw [hiq, iterPos_of (Lib.iterAt_heap _ _ _ _ _ hkq)]; omega
          · have hin : ∀ ty, (Instr.next (.pointer (some ⟨W1.heap.size, 0, none⟩)) true ty).run Tryd.prog wr = .ok (.tuple #[.bool true, .int .i64 1, .int .i32 9]) (wr.iterAt W1.heap.size blanks 2) := fun ty => Lib.run_next_ascii_at wr _ blanks 1 ty hkq (by decide) (by decide)
            go_wp2
            go_roundw
            case rel => exact ⟨2, by omega, Lib.iterAt_heap _ _ _ _ _ hkq, Lib.below_iterAt hbq (Nat.le_refl _) _ _⟩
            case measure => rw [hiq, iterPos_of (Lib.iterAt_heap _ _ _ _ _ hkq)]; omega
          · have hin : ∀ ty, (Instr.next (.pointer (some ⟨W1.heap.size, 0, none⟩)) true ty).run Tryd.prog wr = .ok (.tuple #[.bool false]) wr := fun ty => Lib.run_next_end_at wr _ blanks 2 ty hkq (by decide)
            go_wp2
            have hk2 : wr.heap[w.heap.size]? = some (.stringIter s (p + 1)) := (hbq.block _ hz1).trans hk1
            go_roundw
            case rel => exact ⟨p + 1, by omega, hk2, hb1.trans (hbq.mono (by omega))⟩
            case measure => rw [Hip.out, iterPos_of hk2]; omega
      · have hpe : p = k := by omega
        subst hpe
        have h32 : (c == 32) = true := beq_iff_eq.2 (by rw [hc]; exact HT.out hlt)
        clear hc
        have hin : ∀ ty, (Instr.next (.pointer (some ⟨W1.heap.size, 0, none⟩)) true ty).run Tryd.prog (W1.iter blanks 0) = .ok (.tuple #[.bool true, .int .i64 0, .int .i32 32]) (W1.iter blanks 1) := fun ty => run_next_ascii W1 blanks 0 ty (by decide) (by decide)
        go_wp2
        refine wp_loop_rounds 1 ?_; rw [rounds_succ]
        go_wp2
        go_ret
        refine ⟨by rw [if_pos hlt]; rfl, hb1.alloc (by omega) _⟩
    · have hnx : ∀ ty, (Instr.next (.pointer (some ⟨w.heap.size, 0, none⟩)) true ty).run Tryd.prog wr = .ok (.tuple #[.bool false]) wr := fun ty => Lib.run_next_end_at wr _ s p ty hk0 hlt
      go_wp2
      go_ret
      exact ⟨by rw [if_neg (by omega)]; rfl, hb⟩
end Go.Proofs.YtmkbkpeccddejaaDoor
