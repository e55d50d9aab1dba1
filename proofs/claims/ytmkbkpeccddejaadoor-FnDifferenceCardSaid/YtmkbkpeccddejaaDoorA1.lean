/- The walks of the program's plain readers of strings: what validMethod, Host, Method and Name answer. -/
import Derived.Test.YtmkbkpeccddejaaDoorA0
namespace Go.Proofs.YtmkbkpeccddejaaDoor
open Go.RowKit
set_option linter.unusedVariables false
set_option linter.unusedSimpArgs false

set_option maxHeartbeats 200000 in
set_option maxRecDepth 100000 in
theorem validMethod_yes (s : ByteArray) (w : World) (hs : s.size ≤ 100) (h0 : s.toList.isEmpty = false)
    (hl : ∀ k : Nat, k < s.size → (65 ≤ byt s k ∧ byt s k ≤ 90) ∨ (97 ≤ byt s k ∧ byt s k ≤ 122)) :
    Calls Tryd.prog 37 #[.string s] w fun e w' => e = .returned (.bool true) ∧ w = w' := by
  have HL := Lib.hid hl
  clear hl
  go_enter Tryd.func37, Tryd.ntmps37
  try simp only [List.append_eq, List.cons_append, List.nil_append]
  go_wp2
  go_loop [3] (fun i => ∃ k : Nat, k ≤ s.size ∧ i = .int .i64 k) (fun i => s.size - (intOf i).toNat)
  case atStart => exact ⟨0, Nat.zero_le _, rfl⟩
  case round =>
    obtain ⟨k, hk, rfl⟩ := hrel
    by_cases hlt : k < s.size
    · have hx := byt_at s k
      obtain ⟨c, hc⟩ : ∃ c, c = byt s k := ⟨_, rfl⟩
      have Hc := HL.out k hlt
      rw [← hc] at hx Hc
      clear hc
      rcases Hc with ⟨a, b⟩ | ⟨a, b⟩
      · have d1 : decide ((97 : Int) ≤ c) = false := decide_eq_false (by omega)
        have d2 : decide ((65 : Int) ≤ c) = true := decide_eq_true (by omega)
        have d3 : decide (c ≤ (90 : Int)) = true := decide_eq_true (by omega)
        clear a b
        have q1 : (0 : Int) ≤ (k : Int) := by omega
        have q2 : (k : Int) < (s.size : Int) := by omega
        go_wp2
        go_round
        case rel => exact ⟨k + 1, by omega, by go_num⟩
        case measure => simp [intOf]; omega
      · have d1 : decide ((97 : Int) ≤ c) = true := decide_eq_true (by omega)
        have d2 : decide (c ≤ (122 : Int)) = true := decide_eq_true (by omega)
        clear a b
        have q1 : (0 : Int) ≤ (k : Int) := by omega
        have q2 : (k : Int) < (s.size : Int) := by omega
        go_wp2
        go_round
        case rel => exact ⟨k + 1, by omega, by go_num⟩
        case measure => simp [intOf]; omega
    · go_wp2
      go_ret
      exact ⟨rfl, rfl⟩

def hostC (c : Int) : Prop := (97 ≤ c ∧ c ≤ 122) ∨ c = 46 ∨ c = 45 ∨ (48 ≤ c ∧ c ≤ 57)

set_option maxHeartbeats 1000000 in
set_option maxRecDepth 100000 in
theorem host_says (s : ByteArray) (w : World) (hs : s.size ≤ 2147483647) :
    Calls Tryd.prog 20 #[.string s] w (SaysIf (s.size < 20 ∧ ∀ k, k < s.size → hostC (byt s k)) w) := by
  go_enter Tryd.func20, Tryd.ntmps20
  try simp only [List.append_eq, List.cons_append, List.nil_append]
  go_wp2
  go_loop [6] (fun i => ∃ k : Nat, k ≤ s.size ∧ i = .int .i64 k ∧ Hid (∀ j, j < k → hostC (byt s j))) (fun i => s.size - (intOf i).toNat)
  case atStart => exact ⟨0, Nat.zero_le _, rfl, fun j hj => absurd hj (Nat.not_lt_zero _)⟩
  case round =>
    obtain ⟨k, hk, rfl, HP⟩ := hrel
    by_cases hlt : k < s.size
    · have hx := byt_at s k
      obtain ⟨c, hc⟩ : ∃ c, c = byt s k := ⟨_, rfl⟩
      rw [← hc] at hx
      have Hc := Lib.hid hc
      clear hc
      have q1 : (0 : Int) ≤ (k : Int) := by omega
      have q2 : (k : Int) < (s.size : Int) := by omega
      go_wp2
      all_goals first
        | (go_ret; exact says_no _ _)
        | (go_round
           case rel =>
             go_light
             have hC : hostC c := by unfold hostC; simp only [bne_iff_ne, ne_eq, bne_eq_false_iff_eq] at *; omega
             exact ⟨k + 1, by omega, by go_num, hid_step HP (by rw [← Hc.out]; exact hC)⟩
           case measure => simp [intOf]; omega)
    · go_wp2
      go_ret
      exact says_if _ fun h => ⟨by have := of_decide_eq_true h; omega, fun j hj => HP.out j (by omega)⟩

def methC (c : Int) : Prop := (65 ≤ c ∧ c ≤ 90) ∨ (97 ≤ c ∧ c ≤ 122)

set_option maxHeartbeats 1000000 in
set_option maxRecDepth 100000 in
theorem method_says (s : ByteArray) (w : World) (hs : s.size ≤ 2147483647) :
    Calls Tryd.prog 19 #[.string s] w (SaysIf (s.size < 12 ∧ ∀ k, k < s.size → methC (byt s k)) w) := by
  go_enter Tryd.func19, Tryd.ntmps19
  try simp only [List.append_eq, List.cons_append, List.nil_append]
  go_wp2
  go_loop [6] (fun i => ∃ k : Nat, k ≤ s.size ∧ i = .int .i64 k ∧ Hid (∀ j, j < k → methC (byt s j))) (fun i => s.size - (intOf i).toNat)
  case atStart => exact ⟨0, Nat.zero_le _, rfl, fun j hj => absurd hj (Nat.not_lt_zero _)⟩
  case round =>
    obtain ⟨k, hk, rfl, HP⟩ := hrel
    by_cases hlt : k < s.size
    · have hx := byt_at s k
      obtain ⟨c, hc⟩ : ∃ c, c = byt s k := ⟨_, rfl⟩
      rw [← hc] at hx
      have Hc := Lib.hid hc
      clear hc
      have q1 : (0 : Int) ≤ (k : Int) := by omega
      have q2 : (k : Int) < (s.size : Int) := by omega
      go_wp2
      all_goals first
        | (go_ret; exact says_no _ _)
        | (go_round
           case rel =>
             go_light
             have hC : methC c := by unfold methC; simp only [bne_iff_ne, ne_eq, bne_eq_false_iff_eq] at *; omega
             exact ⟨k + 1, by omega, by go_num, hid_step HP (by rw [← Hc.out]; exact hC)⟩
           case measure => simp [intOf]; omega)
    · go_wp2
      go_ret
      exact says_if _ fun h => ⟨by have := of_decide_eq_true h; omega, fun j hj => HP.out j (by omega)⟩

def nameC (k : Nat) (c : Int) : Prop := c = 95 ∨ (65 ≤ c ∧ c ≤ 90) ∨ (97 ≤ c ∧ c ≤ 122) ∨ (k ≠ 0 ∧ 48 ≤ c ∧ c ≤ 57)

set_option maxHeartbeats 2000000 in
set_option maxRecDepth 100000 in
theorem name_says (s : ByteArray) (w : World) (hs : s.size ≤ 2147483647) :
    Calls Tryd.prog 21 #[.string s] w (SaysIf (0 < s.size ∧ ∀ k, k < s.size → nameC k (byt s k)) w) := by
  go_enter Tryd.func21, Tryd.ntmps21
  try simp only [List.append_eq, List.cons_append, List.nil_append]
  go_wp2
  go_loop [8] (fun i => ∃ k : Nat, k ≤ s.size ∧ i = .int .i64 k ∧ Hid (∀ j, j < k → nameC j (byt s j))) (fun i => s.size - (intOf i).toNat)
  case atStart => exact ⟨0, Nat.zero_le _, rfl, fun j hj => absurd hj (Nat.not_lt_zero _)⟩
  case round =>
    obtain ⟨k, hk, rfl, HP⟩ := hrel
    by_cases hlt : k < s.size
    · have hx := byt_at s k
      obtain ⟨c, hc⟩ : ∃ c, c = byt s k := ⟨_, rfl⟩
      rw [← hc] at hx
      have Hc := Lib.hid hc
      clear hc
      have q1 : (0 : Int) ≤ (k : Int) := by omega
      have q2 : (k : Int) < (s.size : Int) := by omega
      have fin : nameC k c → ∃ k_1 : Nat, k_1 ≤ s.size ∧ Value.int IntKind.i64 ((k : Int) + 1) = Value.int IntKind.i64 ↑k_1 ∧ Hid (∀ j, j < k_1 → nameC j (byt s j)) :=
        fun hC => ⟨k + 1, by omega, by go_num, hid_step (P := fun j => nameC j (byt s j)) HP (by rw [← Hc.out]; exact hC)⟩
      have Fin := Lib.hid fin
      clear fin
      by_cases hC : nameC k c
      · have HC := Lib.hid hC
        unfold nameC at hC
        by_cases h95 : c = 95
        · subst h95
          clear hC
          go_wp2
          go_round
          case rel => exact Fin.out HC.out
          case measure => simp [intOf]; omega
        · have e95 : (c == 95) = false := beq_eq_false_iff_ne.2 h95
          have h2 : (65 ≤ c ∧ c ≤ 90) ∨ (97 ≤ c ∧ c ≤ 122) ∨ (k ≠ 0 ∧ 48 ≤ c ∧ c ≤ 57) := by rcases hC with h | h; exact absurd h h95; exact h
          clear hC h95
          rcases h2 with ⟨a, b⟩ | ⟨a, b⟩ | ⟨h0, a, b⟩
          · go_wp2
            go_round
            case rel => exact Fin.out HC.out
            case measure => simp [intOf]; omega
          · go_wp2
            go_round
            case rel => exact Fin.out HC.out
            case measure => simp [intOf]; omega
          · have e0 : ((k : Int) == 0) = false := beq_eq_false_iff_ne.2 (by omega)
            go_wp2
            go_round
            case rel => exact Fin.out HC.out
            case measure => simp [intOf]; omega
      · have HC := Lib.hid hC
        clear hC
        go_wp2
        all_goals first
          | (go_ret; exact says_no _ _)
          | (exfalso
             go_light
             refine HC.out ?_
             unfold nameC
             simp only [Bool.not_eq_true', Bool.not_eq_false', decide_eq_true_eq, decide_eq_false_iff_not, bne_iff_ne, ne_eq, bne_eq_false_iff_eq, beq_iff_eq, beq_eq_false_iff_ne] at *
             omega)
    · go_wp2
      go_ret
      exact says_if _ fun h => ⟨pos_of_notEmpty h, fun j hj => HP.out j (by omega)⟩
end Go.Proofs.YtmkbkpeccddejaaDoor
