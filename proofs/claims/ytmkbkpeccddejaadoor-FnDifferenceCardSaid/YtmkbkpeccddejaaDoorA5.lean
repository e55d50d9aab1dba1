/- The walks of the program's pathUnescape at a text without percent signs, and of cleanPath at a clean path. -/
import Derived.Test.YtmkbkpeccddejaaDoorA0
import Derived.Test.YtmkbkpeccddejaaDoorShelf
import Derived.Test.YtmkbkpeccddejaaDoorB0
namespace Go.Proofs.YtmkbkpeccddejaaDoor
open Go.RowKit
set_option linter.unusedVariables false
set_option linter.unusedSimpArgs false

set_option maxHeartbeats 2000000 in
set_option maxRecDepth 100000 in
theorem unescape_same (s : ByteArray) (w : World) (hs : s.size ≤ 2147483647) (hn : ∀ k, k < s.size → byt s k ≠ 37) :
    Calls Tryd.prog 57 #[.string s, .int .u8 2] w fun e w' => e = .returned (.tuple #[.string s, .nilIface]) ∧ w = w' := by
  have Hn := Lib.hid hn
  clear hn
  go_enter Tryd.func57, Tryd.ntmps57
  try simp only [List.append_eq, List.cons_append, List.nil_append]
  go_wp2
  go_loop [0, 6, 7, 8] (fun t n b i => ∃ k : Nat, k ≤ s.size ∧ t = .string s ∧ n = .int .i64 0 ∧ b = .bool false ∧ i = .int .i64 k) (fun _ _ _ i => s.size - (intOf i).toNat)
  case atStart => exact ⟨0, Nat.zero_le _, rfl, rfl, rfl, rfl⟩
  case round =>
    obtain ⟨k, hk, rfl, rfl, rfl, rfl⟩ := hrel
    by_cases hlt : k < s.size
    · have hx := byt_at s k
      have hc := Hn.out k hlt
      obtain ⟨c, hc'⟩ : ∃ c, c = byt s k := ⟨_, rfl⟩
      rw [← hc'] at hx hc
      clear hc'
      have q1 : (0 : Int) ≤ (k : Int) := by omega
      have q2 : (k : Int) < (s.size : Int) := by omega
      have e : (c == 37) = false := beq_eq_false_iff_ne.2 hc
      clear hc
      by_cases h43 : c = 43
      · have e43 : (c == 43) = true := beq_iff_eq.2 h43
        clear h43
        go_wp2
        go_round
        case rel => exact ⟨k + 1, by omega, rfl, rfl, rfl, by go_num⟩
        case measure => simp [intOf]; omega
      · have e43 : (c == 43) = false := beq_eq_false_iff_ne.2 h43
        clear h43
        go_wp2
        go_round
        case rel => exact ⟨k + 1, by omega, rfl, rfl, rfl, by go_num⟩
        case measure => simp [intOf]; omega
    · go_wp2
      go_ret2
      exact ⟨rfl, rfl⟩

theorem pathUnescape_same (s : ByteArray) (w : World) (hs : s.size ≤ 2147483647) (hn : ∀ k, k < s.size → byt s k ≠ 37) :
    Calls Tryd.prog 40 #[.string s] w fun e w' => e = .returned (.string s) ∧ w = w' := by
  have Hn := Lib.hid hn
  clear hn
  go_enter Tryd.func40, Tryd.ntmps40
  go_wp2_with (first | (go_at_call 57; refine (unescape_same s _ hs Hn.out).mono ?_; rintro e w1 ⟨rfl, rfl⟩) | go_in)
  go_ret
  exact ⟨rfl, rfl⟩

theorem str_eq {a b : ByteArray} (h : a.data.toList = b.data.toList) : a = b := by rw [← Lib.mk_data a, ← Lib.mk_data b, h]

/-- A path that path.Clean leaves as it is. -/
theorem cleanPath_kept (s : ByteArray) (w : World) (hs : s.size ≤ 2147483647) (h0 : 0 < s.size) (hf : byt s 0 = 47) (hc : Lib.Pa.clean s.data.toList = s.data.toList)
    (hl : byt s (s.size - 1) ≠ 47 ∨ s.toList = [47]) :
    Calls Tryd.prog 39 #[.string s] w fun e w' => e = .returned (.string s) ∧ Below w.heap.size w w' := by
  have hx0 := byt_at s 0
  have hx1 := byt_at s (s.size - 1)
  obtain ⟨c0, hc0⟩ : ∃ c, c = byt s 0 := ⟨_, rfl⟩
  obtain ⟨c1, hc1⟩ : ∃ c, c = byt s (s.size - 1) := ⟨_, rfl⟩
  have e0 : (c0 == 47) = true := beq_iff_eq.2 (hc0.trans hf)
  have n0 : (c0 != 47) = false := bne_eq_false_iff_eq.2 (hc0.trans hf)
  rw [← hc0] at hx0
  rw [← hc1] at hx1 hl
  have ee := notEmpty_of_pos h0
  have eq : (⟨(Lib.Pa.clean s.data.toList).toArray⟩ : ByteArray) = s := by rw [hc]
  have HE := Lib.hid eq
  clear hc0 hc1 hc hf eq
  have i1 : (0 : Int) ≤ (s.size : Int) - 1 := by omega
  rcases hl with hl | hl
  · have n1 : (c1 == 47) = false := beq_eq_false_iff_ne.2 hl
    clear hl
    go_enter Tryd.func39, Tryd.ntmps39
    go_wp2_with (go_at_call 46; refine (Tryd.path_Clean s _ (by omega)).mono ?_; rw [HE.out]; rintro e w1 ⟨rfl, hb⟩)
    go_ret
    exact ⟨rfl, hb⟩
  · have e2 : (s.toList == [47]) = true := beq_iff_eq.2 hl
    have z1 : s.size = 1 := by rw [Lib.toList_data] at hl; rw [Lib.size_eq, hl]; rfl
    clear hl
    by_cases n1 : c1 = 47
    · have n1 : (c1 == 47) = true := beq_iff_eq.2 n1
      clear z1
      go_enter Tryd.func39, Tryd.ntmps39
      go_wp2_with (go_at_call 46; refine (Tryd.path_Clean s _ (by omega)).mono ?_; rw [HE.out]; rintro e w1 ⟨rfl, hb⟩)
      go_ret
      exact ⟨rfl, hb⟩
    · have n1 : (c1 == 47) = false := beq_eq_false_iff_ne.2 n1
      clear z1
      go_enter Tryd.func39, Tryd.ntmps39
      go_wp2_with (go_at_call 46; refine (Tryd.path_Clean s _ (by omega)).mono ?_; rw [HE.out]; rintro e w1 ⟨rfl, hb⟩)
      go_ret
      exact ⟨rfl, hb⟩

/-- A clean path with a slash at its end. -/
theorem cleanPath_slash (s q : ByteArray) (w : World) (hs : s.size ≤ 2147483647) (h0 : 0 < s.size) (hf : byt s 0 = 47) (hc : Lib.Pa.clean s.data.toList = q.data.toList)
    (hq : s.data.toList = q.data.toList ++ [47]) (hl : byt s (s.size - 1) = 47) (h1 : q.toList ≠ [47]) :
    Calls Tryd.prog 39 #[.string s] w fun e w' => e = .returned (.string s) ∧ Below w.heap.size w w' := by
  have hx0 := byt_at s 0
  have hx1 := byt_at s (s.size - 1)
  obtain ⟨c0, hc0⟩ : ∃ c, c = byt s 0 := ⟨_, rfl⟩
  obtain ⟨c1, hc1⟩ : ∃ c, c = byt s (s.size - 1) := ⟨_, rfl⟩
  have e0 : (c0 == 47) = true := beq_iff_eq.2 (hc0.trans hf)
  have n0 : (c0 != 47) = false := bne_eq_false_iff_eq.2 (hc0.trans hf)
  have n1 : (c1 == 47) = true := beq_iff_eq.2 (hc1.trans hl)
  rw [← hc0] at hx0
  rw [← hc1] at hx1
  have ee := notEmpty_of_pos h0
  have eq : (⟨(Lib.Pa.clean s.data.toList).toArray⟩ : ByteArray) = q := by rw [hc]
  have HE := Lib.hid eq
  have hz : s.size = q.size + 1 := by rw [Lib.size_eq, hq, Lib.size_eq]; simp
  have hpre : Lib.hasPrefix s.data.toList q.data.toList = true := by rw [hq]; simp [Lib.hasPrefix]
  have HZ := Lib.hid hz; have HP := Lib.hid hpre
  have e2 : (q.toList == [47]) = false := by simpa using h1
  have hzi : ((s.size : Int) == (q.size : Int) + 1) = true := beq_iff_eq.2 (by omega)
  have hq2 : q.size ≤ 2147483647 := by omega
  clear hc0 hc1 hc hf eq hl hz hpre hq h1
  have i1 : (0 : Int) ≤ (s.size : Int) - 1 := by omega
  go_enter Tryd.func39, Tryd.ntmps39
  go_wp2_with (first
    | (go_at_call 46; refine (Tryd.path_Clean s _ (by omega)).mono ?_; rw [HE.out]; rintro e w1 ⟨rfl, hb⟩)
    | (go_at_call 47; refine (Tryd.strings_HasPrefix s q _).mono ?_; rw [HP.out]; rintro e w2 ⟨rfl, rfl⟩))
  go_ret
  exact ⟨rfl, hb⟩
end Go.Proofs.YtmkbkpeccddejaaDoor
