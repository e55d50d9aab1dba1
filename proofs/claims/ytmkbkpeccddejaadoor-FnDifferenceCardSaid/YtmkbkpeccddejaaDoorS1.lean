/- The walk of the reference's Write: how a pattern is written. -/
import Derived.Test.YtmkbkpeccddejaaDoorD0
namespace Go.Proofs.YtmkbkpeccddejaaDoor
open Go.RowKit PFnDifference Go.Proofs.YtmkbkpeccddejaaDoorW.PrintWords Go.Proofs.YtmkbkpeccddejaaDoorW.PrintLast Go.Proofs.YtmkbkpeccddejaaDoorW.PrintMore
set_option linter.unusedVariables false
set_option linter.unusedSimpArgs false

/-- Two texts, put together. -/
theorem cat (a b : ByteArray) (h : a.size + b.size ≤ 100000) : ∃ c : ByteArray, (∀ W, (Op.stringOp .add a b).run Tryd.prog W = .ok (.string c) W) ∧ c.data.toList = a.data.toList ++ b.data.toList ∧ c.size = a.size + b.size :=
  ⟨a ++ b, fun W => run_string_add_sum W a b (by omega), by rw [ByteArray.data_append, Array.toList_append], ByteArray.size_append⟩
theorem isEmpty_yes {s : ByteArray} (h : s.data.toList = []) : s.toList.isEmpty = true ∧ (s.toList == []) = true ∧ s.size = 0 := by
  refine ⟨by rw [Lib.toList_data, h]; rfl, by rw [Lib.toList_data, h]; rfl, by rw [Lib.size_eq, h]; rfl⟩
theorem isEmpty_no {s : ByteArray} (h : s.data.toList ≠ []) : s.toList.isEmpty = false ∧ (s.toList == []) = false := by
  refine ⟨?_, by rw [Lib.toList_data]; exact beq_eq_false_iff_ne.2 h⟩
  rw [Lib.toList_data]
  cases hh : s.data.toList with
  | nil => exact absurd hh h
  | cons a t => rfl
theorem isSlash_yes {s : ByteArray} (h : s.data.toList = [47]) : (s.toList == [47]) = true := by rw [Lib.toList_data, h]; rfl
theorem isSlash_no {s : ByteArray} (h : s.data.toList ≠ [47]) : (s.toList == [47]) = false := by rw [Lib.toList_data]; exact beq_eq_false_iff_ne.2 h
theorem restL_take (l : List S42) (k : Nat) (x : S42) (h : l[k]? = some x) : restL (l.take (k + 1)) = restL (l.take k) ++ 47 :: segL x := by
  obtain ⟨hk, e⟩ := List.getElem?_eq_some_iff.1 h
  rw [List.take_succ_eq_append_getElem hk, e]
  unfold restL
  rw [List.map_append, tailB_append]
  show _ ++ tailB [segL x] = _
  rw [tailB_cons, tailB_nil, List.append_nil]
def headL (m h : ByteArray) : List UInt8 := if m.data.toList = [] then h.data.toList else m.data.toList ++ 32 :: h.data.toList
theorem segL_len' {x : S42} (h : x.f0.size ≤ 16) : (segL x).length ≤ 21 := by
  have e := Lib.size_eq x.f0
  unfold segL
  repeat' split
  all_goals try simp only [List.length_cons, List.length_append, List.length_nil]
  all_goals omega

set_option maxHeartbeats 8000000 in
set_option maxRecDepth 100000 in
theorem write_calls (m h : ByteArray) (A : Option Addr) (c : Nat) (l : List S42) (w : World) (hm : m.size ≤ 100) (hh : h.size ≤ 100) (hC : Kd.C k42 w A l.length l) (hc : l.length ≤ c) (hl : l.length ≤ 6) (h16 : ∀ x ∈ l, x.f0.size ≤ 16) :
    Calls Tryd.prog 8 #[.agg #[.string m, .string h, .slice A l.length c]] w fun e w' => ∃ s : ByteArray, e = .returned (.string s) ∧ s.data.toList = writeL m h l ∧ Below w.heap.size w w' := by
  have HC := Lib.hid hC; have H16 := Lib.hid h16
  clear hC h16
  -- the head
  obtain ⟨s1, g1, f1, z1⟩ := cat m ⟨#[32]⟩ (by have : (⟨#[32]⟩ : ByteArray).size = 1 := rfl; omega)
  have z32 : (⟨#[32]⟩ : ByteArray).size = 1 := rfl
  obtain ⟨s2, g2, f2, z2⟩ := cat s1 h (by omega)
  obtain ⟨hd, ehd⟩ : ∃ hd : ByteArray, hd = if m.data.toList = [] then h else s2 := ⟨_, rfl⟩
  have hhd : hd.data.toList = headL m h := by
    rw [ehd]
    unfold headL
    split
    · rfl
    · rw [f2, f1]; simp
  have hzd : hd.size ≤ 201 := by rw [ehd]; split <;> omega
  have HF := Lib.hid hhd
  clear hhd f1 f2 z32
  have HB0 := Aside0.mk (below_alloc (Below.refl w.heap.size w) (.cells #[.string m, .string h, .slice A l.length c] 28))
  go_enter Tryd.func8, Tryd.ntmps8
  have hstart : ∀ (P : Prop), (m.data.toList = [] → hd = h → P) → (m.data.toList ≠ [] → hd = s2 → P) → P := fun P h1 h2 => by
    by_cases hm0 : m.data.toList = []
    · exact h1 hm0 (by rw [ehd, if_pos hm0])
    · exact h2 hm0 (by rw [ehd, if_neg hm0])
  clear ehd
  refine hstart _ ?_ ?_
  all_goals intro hm0 ehd
  all_goals clear hstart
  case' refine_1 =>
    obtain ⟨em1, em2, _⟩ := isEmpty_yes hm0
    clear hm0
    subst ehd
    go_wp2_with fail
  case' refine_2 =>
    obtain ⟨em1, em2⟩ := isEmpty_no hm0
    clear hm0
    subst ehd
    go_wp2_with fail
  all_goals (
    clear em1 em2
    go_loopw [3, 19] (fun v3 v19 wr => ∃ (k : Nat) (o : ByteArray), v3 = .string o ∧ v19 = .int .i64 k ∧ Aside0 (k ≤ l.length) ∧ Aside0 (o.data.toList = hd.data.toList ++ restL (l.take k)) ∧ Aside0 (o.size ≤ 201 + 22 * k) ∧ Aside0 (Below w.heap.size w wr)) (fun _ v _ => l.length - (intOf v).toNat)
    case atStart => exact ⟨0, hd, rfl, rfl, ⟨Nat.zero_le _⟩, ⟨by simp [restL_nil]⟩, ⟨by omega⟩, HB0⟩
    case round =>
      obtain ⟨k, o, rfl, rfl, HK, HO, HZ, HB⟩ := hrel
      by_cases hkl : k < l.length
      · have d0 : decide ((k : Int) < (l.length : Int)) = true := decide_eq_true (by omega)
        obtain ⟨ad, x, eA, ex, c0, c1, c2⟩ := at42n (Kd.C_below HC.out HB.out) k hkl
        have hx16 := H16.out x (List.mem_of_getElem? ex)
        have hrt := restL_take l k x ex
        have hsl := segL_len' hx16
        have hz := HZ.out
        have k0 : (0 : Int) ≤ (k : Int) := by omega
        have k1 : (k : Int) < (l.length : Int) := by omega
        obtain ⟨o1, g3, f3, z3⟩ := cat o ⟨#[47]⟩ (by have : (⟨#[47]⟩ : ByteArray).size = 1 := rfl; omega)
        have z47 : (⟨#[47]⟩ : ByteArray).size = 1 := rfl
        have H3 := Lib.hid f3; have HRT := Lib.hid hrt; have HSL := Lib.hid hsl
        clear f3 hrt ex hsl
        subst eA
        have hfin : ∀ o2 : ByteArray, o2.data.toList = o1.data.toList ++ segL x → o2.data.toList = hd.data.toList ++ restL (l.take (k + 1)) ∧ o2.size ≤ 201 + 22 * (k + 1) := fun o2 h2 => ⟨by rw [h2, H3.out, HO.out, HRT.out]; simp, by rw [Lib.size_eq, h2, List.length_append, ← Lib.size_eq]; have := HSL.out; omega⟩
        have HFIN := Lib.hid hfin
        clear hfin
        obtain ⟨x0, x1, x2⟩ := x
        have HBW := Aside0.mk (below_alloc HB.out (.cells #[.string x0, .bool x1, .bool x2] 42))
        cases x2 with
        | true =>
          by_cases he : x0.data.toList = []
          · obtain ⟨n0, n1, _⟩ := isEmpty_yes he
            have HE := Lib.hid he
            clear he
            go_wp2_with fail
            obtain ⟨e5, e6⟩ := HFIN.out o1 (by rw [segL_slash HE.out rfl, List.append_nil])
            refine ⟨⟨k + 1, o1, rfl, by go_num, ⟨by omega⟩, ⟨e5⟩, ⟨e6⟩, HBW⟩, ?_⟩
            simp [intOf]; omega
          · obtain ⟨n0, n1⟩ := isEmpty_no he
            have HE := Lib.hid he
            clear he
            have hx16' : x0.size ≤ 16 := hx16
            obtain ⟨y1, gy1, fy1, zy1⟩ := cat ⟨#[123]⟩ x0 (by have : (⟨#[123]⟩ : ByteArray).size = 1 := rfl; omega)
            have zp : (⟨#[123]⟩ : ByteArray).size = 1 := rfl
            obtain ⟨y2, gy2, fy2, zy2⟩ := cat y1 ⟨#[46, 46, 46, 125]⟩ (by have : (⟨#[46, 46, 46, 125]⟩ : ByteArray).size = 4 := rfl; omega)
            have zq : (⟨#[46, 46, 46, 125]⟩ : ByteArray).size = 4 := rfl
            obtain ⟨y3, gy3, fy3, zy3⟩ := cat o1 y2 (by omega)
            have F1 := Lib.hid fy1; have F2 := Lib.hid fy2; have F3 := Lib.hid fy3
            clear fy1 fy2 fy3 zp zq
            go_wp2_with fail
            obtain ⟨e5, e6⟩ := HFIN.out y3 (by rw [F3.out, F2.out, F1.out]; unfold segL; rw [if_pos rfl, if_neg HE.out]; simp)
            refine ⟨⟨k + 1, y3, rfl, by go_num, ⟨by omega⟩, ⟨e5⟩, ⟨e6⟩, HBW⟩, ?_⟩
            simp [intOf]; omega
        | false =>
          cases x1 with
          | true =>
            have hx16' : x0.size ≤ 16 := hx16
            obtain ⟨y1, gy1, fy1, zy1⟩ := cat ⟨#[123]⟩ x0 (by have : (⟨#[123]⟩ : ByteArray).size = 1 := rfl; omega)
            have zp : (⟨#[123]⟩ : ByteArray).size = 1 := rfl
            obtain ⟨y2, gy2, fy2, zy2⟩ := cat y1 ⟨#[125]⟩ (by have : (⟨#[125]⟩ : ByteArray).size = 1 := rfl; omega)
            have zq : (⟨#[125]⟩ : ByteArray).size = 1 := rfl
            obtain ⟨y3, gy3, fy3, zy3⟩ := cat o1 y2 (by omega)
            have F1 := Lib.hid fy1; have F2 := Lib.hid fy2; have F3 := Lib.hid fy3
            clear fy1 fy2 fy3 zp zq
            go_wp2_with fail
            obtain ⟨e5, e6⟩ := HFIN.out y3 (by rw [F3.out, F2.out, F1.out]; unfold segL; rw [if_neg (by simp), if_pos rfl]; simp)
            refine ⟨⟨k + 1, y3, rfl, by go_num, ⟨by omega⟩, ⟨e5⟩, ⟨e6⟩, HBW⟩, ?_⟩
            simp [intOf]; omega
          | false =>
            have hx16' : x0.size ≤ 16 := hx16
            by_cases he : x0.data.toList = [47]
            · have n0 := isSlash_yes he
              have HE := Lib.hid he
              clear he
              obtain ⟨y3, gy3, fy3, zy3⟩ := cat o1 ⟨#[123, 36, 125]⟩ (by have : (⟨#[123, 36, 125]⟩ : ByteArray).size = 3 := rfl; omega)
              have F3 := Lib.hid fy3
              clear fy3
              go_wp2_with fail
              obtain ⟨e5, e6⟩ := HFIN.out y3 (by rw [F3.out, segL_stop HE.out rfl rfl])
              refine ⟨⟨k + 1, y3, rfl, by go_num, ⟨by omega⟩, ⟨e5⟩, ⟨e6⟩, HBW⟩, ?_⟩
              simp [intOf]; omega
            · have n0 := isSlash_no he
              have HE := Lib.hid he
              clear he
              obtain ⟨y3, gy3, fy3, zy3⟩ := cat o1 x0 (by omega)
              have F3 := Lib.hid fy3
              clear fy3
              go_wp2_with fail
              obtain ⟨e5, e6⟩ := HFIN.out y3 (by rw [F3.out]; unfold segL; rw [if_neg (by simp), if_neg (by simp), if_neg HE.out])
              refine ⟨⟨k + 1, y3, rfl, by go_num, ⟨by omega⟩, ⟨e5⟩, ⟨e6⟩, HBW⟩, ?_⟩
              simp [intOf]; omega
      · have d0 : decide ((k : Int) < (l.length : Int)) = false := decide_eq_false (by omega)
        have hk : l.length ≤ k := by omega
        go_wp2_with fail
        go_ret
        refine ⟨o, rfl, ?_, HB.out⟩
        have ho := HO.out
        rw [List.take_of_length_le hk, HF.out] at ho
        exact ho)
end Go.Proofs.YtmkbkpeccddejaaDoor
