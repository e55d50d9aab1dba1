/- The walks of the reference's readers of literals: what Literal and has answer. -/
import Derived.Test.YtmkbkpeccddejaaDoorA0
namespace Go.Proofs.YtmkbkpeccddejaaDoor
open Go.RowKit
set_option linter.unusedVariables false
set_option linter.unusedSimpArgs false

def litC (c : Int) : Prop := 32 < c ∧ c ≤ 126 ∧ c ≠ 47 ∧ c ≠ 37 ∧ c ≠ 123 ∧ c ≠ 125

set_option maxHeartbeats 1000000 in
set_option maxRecDepth 100000 in
theorem literal_says (s : ByteArray) (w : World) (hs : s.size ≤ 2147483647) :
    Calls Tryd.prog 22 #[.string s] w (SaysIf (s.toList ≠ [] ∧ s.toList ≠ [46] ∧ s.toList ≠ [46, 46] ∧ s.size ≤ 16 ∧ ∀ k, k < s.size → litC (byt s k)) w) := by
  by_cases h1 : s.toList = []
  · have e1 : s.toList.isEmpty = true := by rw [h1]; rfl
    clear h1
    go_enter Tryd.func22, Tryd.ntmps22
    go_wp2
    go_ret; exact says_no _ _
  have e1 : s.toList.isEmpty = false := by cases h : s.toList with | nil => exact absurd h h1 | cons _ _ => rfl
  by_cases h2 : s.toList = [46]
  · have e2 : (s.toList == [46]) = true := by rw [h2]; rfl
    clear h1 h2
    go_enter Tryd.func22, Tryd.ntmps22
    go_wp2
    go_ret; exact says_no _ _
  have e2 : (s.toList == [46]) = false := by simpa using h2
  by_cases h3 : s.toList = [46, 46]
  · have e3 : (s.toList == [46, 46]) = true := by rw [h3]; rfl
    clear h1 h2 h3
    go_enter Tryd.func22, Tryd.ntmps22
    go_wp2
    go_ret; exact says_no _ _
  have e3 : (s.toList == [46, 46]) = false := by simpa using h3
  by_cases h4 : 16 < s.size
  · clear h1 h2 h3
    go_enter Tryd.func22, Tryd.ntmps22
    go_wp2
    go_ret; exact says_no _ _
  have H1 := Lib.hid h1; have H2 := Lib.hid h2; have H3 := Lib.hid h3
  clear h1 h2 h3
  go_enter Tryd.func22, Tryd.ntmps22
  go_wp2
  go_loop [21] (fun i => ∃ k : Nat, k ≤ s.size ∧ i = .int .i64 k ∧ Hid (∀ j, j < k → litC (byt s j))) (fun i => s.size - (intOf i).toNat)
  case atStart => exact ⟨0, Nat.zero_le _, rfl, fun j hj => absurd hj (Nat.not_lt_zero _)⟩
  case round =>
    obtain ⟨k, hk, rfl, HP⟩ := hrel
    by_cases hlt : k < s.size
    · have hx := byt_at s k
      obtain ⟨c, hc⟩ : ∃ c, c = byt s k := ⟨_, rfl⟩
      rw [← hc] at hx
      have Hc := Lib.hid hc
      clear hc
      have q1 : (0 : Int) ≤ (k : Int) := by omega
      have q2 : (k : Int) < (s.size : Int) := by omega
      by_cases hC : litC c
      · have fin : ∃ k_1 : Nat, k_1 ≤ s.size ∧ Value.int IntKind.i64 ((k : Int) + 1) = Value.int IntKind.i64 ↑k_1 ∧ Hid (∀ j, j < k_1 → litC (byt s j)) :=
          ⟨k + 1, by omega, by go_num, hid_step (P := fun j => litC (byt s j)) HP (by rw [← Hc.out]; exact hC)⟩
        have Fin := Lib.hid fin
        clear fin
        obtain ⟨a, b, c1, c2, c3, c4⟩ := hC
        have e47 : (c == 47) = false := beq_eq_false_iff_ne.2 c1
        have e37 : (c == 37) = false := beq_eq_false_iff_ne.2 c2
        have e123 : (c == 123) = false := beq_eq_false_iff_ne.2 c3
        have e125 : (c == 125) = false := beq_eq_false_iff_ne.2 c4
        clear c1 c2 c3 c4
        go_wp2
        go_round
        case rel => exact Fin.out
        case measure => simp [intOf]; omega
      · have HC := Lib.hid hC
        clear hC
        go_wp2
        all_goals first
          | (go_ret; exact says_no _ _)
          | (exfalso
             go_light
             refine HC.out ?_
             unfold litC
             simp only [Bool.not_eq_true', Bool.not_eq_false', decide_eq_true_eq, decide_eq_false_iff_not, bne_iff_ne, ne_eq, bne_eq_false_iff_eq, beq_iff_eq, beq_eq_false_iff_ne] at *
             omega)
    · go_wp2
      go_ret
      exact says_if _ fun _ => ⟨H1.out, H2.out, H3.out, by omega, fun j hj => HP.out j (by omega)⟩

set_option maxHeartbeats 1000000 in
set_option maxRecDepth 100000 in
theorem has_not (s : ByteArray) (b : Int) (w : World) (hs : s.size ≤ 2147483647) (hn : ∀ k, k < s.size → byt s k ≠ b) :
    Calls Tryd.prog 25 #[.string s, .int .u8 b] w fun e w' => e = .returned (.bool false) ∧ w = w' := by
  have Hn := Lib.hid hn
  clear hn
  go_enter Tryd.func25, Tryd.ntmps25
  go_wp2
  go_loop [8] (fun i => ∃ k : Nat, k ≤ s.size ∧ i = .int .i64 k) (fun i => s.size - (intOf i).toNat)
  case atStart => exact ⟨0, Nat.zero_le _, rfl⟩
  case round =>
    obtain ⟨k, hk, rfl⟩ := hrel
    by_cases hlt : k < s.size
    · have hx := byt_at s k
      have hc := Hn.out k hlt
      obtain ⟨c, hc'⟩ : ∃ c, c = byt s k := ⟨_, rfl⟩
      rw [← hc'] at hx hc
      clear hc'
      have q1 : (0 : Int) ≤ (k : Int) := by omega
      have q2 : (k : Int) < (s.size : Int) := by omega
      have e : (c == b) = false := beq_eq_false_iff_ne.2 hc
      clear hc
      go_wp2
      go_round
      case rel => exact ⟨k + 1, by omega, by go_num⟩
      case measure => simp [intOf]; omega
    · go_wp2
      go_ret
      exact ⟨rfl, rfl⟩
end Go.Proofs.YtmkbkpeccddejaaDoor
