/- The walk of the reference's ByPaths: which relationship two patterns' paths have. -/
import Derived.Test.YtmkbkpeccddejaaDoorS1
import Derived.Test.YtmkbkpeccddejaaDoorPFnDifferencex5
import Derived.Deep.RegionHeld3
namespace Go.Proofs.YtmkbkpeccddejaaDoor
open Go.RowKit PFnDifference Go.Proofs.YtmkbkpeccddejaaDoorW.PrintWords Go.Proofs.YtmkbkpeccddejaaDoorW.PrintLast Go.Proofs.YtmkbkpeccddejaaDoorW.PrintMore
attribute [local go_sem] max2_int min2_int max_two min_two max_three min_three max_four min_four
set_option linter.unusedVariables false
set_option linter.unusedSimpArgs false

inductive R5 | eq | mg | ms | dj | ov
instance : DecidableEq R5 := fun a b => by cases a <;> cases b <;> first | exact isTrue rfl | exact isFalse (fun h => by cases h)
def R5.txt : R5 → ByteArray
  | .eq => ⟨#[101, 113, 117, 105, 118, 97, 108, 101, 110, 116]⟩
  | .mg => ⟨#[109, 111, 114, 101, 71, 101, 110, 101, 114, 97, 108]⟩
  | .ms => ⟨#[109, 111, 114, 101, 83, 112, 101, 99, 105, 102, 105, 99]⟩
  | .dj => ⟨#[100, 105, 115, 106, 111, 105, 110, 116]⟩
  | .ov => ⟨#[111, 118, 101, 114, 108, 97, 112, 115]⟩
def R5.comb (a b : R5) : R5 := if a = .dj ∨ b = .dj then .dj else if a = .eq then b else if b = .eq ∨ a = b then a else .ov
/-- The relationship of two pieces. -/
def rel (x y : S42) : R5 :=
  if x.f2 = true ∧ y.f2 = true then .eq else if x.f2 = true then .mg else if y.f2 = true then .ms else if x.f1 = true ∧ y.f1 = true then .eq
  else if x.f1 = true then (if y.f0.data.toList = [47] then .dj else .mg) else if y.f1 = true then (if x.f0.data.toList = [47] then .dj else .ms)
  else if x.f0.data.toList = y.f0.data.toList then .eq else .dj
theorem comb_f (a b : R5) : spec_Combine.f 3 a.txt b.txt = some (R5.comb a b).txt := by
  cases a <;> cases b <;> simp [spec_Combine.f, spec_Combine.j0, Lib.toList_data, R5.txt, R5.comb]
theorem rel_f (x y : S42) : spec_BySegments.f 3 x.f0 x.f1 x.f2 y.f0 y.f1 y.f2 = some (rel x y).txt := by
  obtain ⟨x0, x1, x2⟩ := x
  obtain ⟨y0, y1, y2⟩ := y
  unfold rel spec_BySegments.f
  simp only [← Lib.toList_data]
  cases x2 <;> cases y2 <;> cases x1 <;> cases y1 <;> simp [spec_BySegments.j0, spec_BySegments.j1, R5.txt] <;> (repeat' split) <;> simp_all
theorem mg_of_comb {a b : R5} (h : R5.comb a b = .mg ∨ R5.comb a b = .ov) : (a = .mg ∨ a = .ov) ∨ b = .mg ∨ b = .ov := by
  cases a <;> cases b <;> revert h <;> decide
theorem dj_of_comb {a b : R5} (h : R5.comb a b ≠ .dj) : a ≠ .dj ∧ b ≠ .dj := by
  cases a <;> cases b <;> revert h <;> decide
theorem rel_ne_ov (x y : S42) : rel x y ≠ .ov := by
  unfold rel
  repeat' split
  all_goals decide
/-- What holds of the first k places. -/
structure Upto (l1 l2 : List S42) (k : Nat) (a : R5) : Prop where
  nodj : a ≠ .dj → ∀ (i : Nat) (x y : S42), i < k → l1[i]? = some x → l2[i]? = some y → rel x y ≠ .dj
  some_mg : (a = .mg ∨ a = .ov) → ∃ (i : Nat) (x y : S42), l1[i]? = some x ∧ l2[i]? = some y ∧ rel x y = .mg
theorem Upto.zero (l1 l2 : List S42) : Upto l1 l2 0 .eq := ⟨fun _ i x y hi => by omega, fun h => by rcases h with h | h <;> cases h⟩
theorem Upto.step {l1 l2 : List S42} {k : Nat} {a : R5} {x y : S42} (h : Upto l1 l2 k a) (hx : l1[k]? = some x) (hy : l2[k]? = some y) : Upto l1 l2 (k + 1) (a.comb (rel x y)) := by
  refine ⟨fun hn i u v hi hu hv => ?_, fun hm => ?_⟩
  · obtain ⟨h1, h2⟩ := dj_of_comb hn
    rcases Nat.lt_or_ge i k with hik | hik
    · exact h.nodj h1 i u v hik hu hv
    · have : i = k := by omega
      subst this
      rw [hx] at hu; rw [hy] at hv
      cases hu; cases hv
      exact h2
  · rcases mg_of_comb hm with h1 | h1 | h1
    · exact h.some_mg h1
    · exact ⟨k, x, y, hx, hy, h1⟩
    · exact absurd h1 (rel_ne_ov x y)
/-- What the result says. -/
structure RelOK (l1 l2 : List S42) : Prop where
  nodj : ∀ (i : Nat) (x y : S42), l1[i]? = some x → l2[i]? = some y → rel x y ≠ .dj
  some_mg : (∃ (i : Nat) (x y : S42), l1[i]? = some x ∧ l2[i]? = some y ∧ rel x y = .mg) ∨ (∃ x, l1[l1.length - 1]? = some x ∧ x.f2 = true ∧ l1.length < l2.length)
  long : l2.length ≤ l1.length ∨ ∃ x ∈ l1, x.f2 = true

set_option maxHeartbeats 8000000 in
set_option maxRecDepth 100000 in
theorem bypaths_calls (m1 h1 m2 h2 : ByteArray) (A1 A2 : Option Addr) (c1 c2 : Nat) (l1 l2 : List S42) (w : World) (hC1 : Kd.C k42 w A1 l1.length l1) (hC2 : Kd.C k42 w A2 l2.length l2)
    (hc1 : l1.length ≤ c1) (hc2 : l2.length ≤ c2) (hp1 : 0 < l1.length) (hp2 : 0 < l2.length) (hl1 : l1.length ≤ 6) (hl2 : l2.length ≤ 6) :
    Calls Tryd.prog 6 #[.agg #[.string m1, .string h1, .slice A1 l1.length c1], .agg #[.string m2, .string h2, .slice A2 l2.length c2]] w fun e w' => ∃ a : R5, e = .returned (.string a.txt) ∧ ((a = .mg ∨ a = .ov) → RelOK l1 l2) ∧ Below w.heap.size w w' := by
  have HC1 := Lib.hid hC1; have HC2 := Lib.hid hC2
  clear hC1 hC2
  obtain ⟨n1, hn1⟩ : ∃ n1, n1 = l1.length := ⟨_, rfl⟩
  obtain ⟨n2, hn2⟩ : ∃ n2, n2 = l2.length := ⟨_, rfl⟩
  rw [← hn1] at hc1 hp1 hl1 ⊢
  rw [← hn2] at hc2 hp2 hl2 ⊢
  have HN1 := Lib.hid hn1; have HN2 := Lib.hid hn2
  clear hn1 hn2
  have HB0 := Aside0.mk (below_alloc (below_alloc (Below.refl w.heap.size w) (.cells #[.string m1, .string h1, .slice A1 n1 c1] 28)) (.cells #[.string m2, .string h2, .slice A2 n2 c2] 28))
  have HX0 : Aside0 (((w.alloc (.cells #[.string m1, .string h1, .slice A1 n1 c1] 28)).alloc (.cells #[.string m2, .string h2, .slice A2 n2 c2] 28)).cell? ⟨w.heap.size, 2, none⟩ = some (.slice A1 n1 c1)) := Aside0.mk ((blk_cell (blk_alloc (blk_new w (.cells #[.string m1, .string h1, .slice A1 n1 c1] 28)) (.cells #[.string m2, .string h2, .slice A2 n2 c2] 28)) 2).trans rfl)
  have HY0 : Aside0 (((w.alloc (.cells #[.string m1, .string h1, .slice A1 n1 c1] 28)).alloc (.cells #[.string m2, .string h2, .slice A2 n2 c2] 28)).cell? ⟨w.heap.size + 1, 2, none⟩ = some (.slice A2 n2 c2)) := Aside0.mk (by have := blk_cell (blk_new (w.alloc (.cells #[.string m1, .string h1, .slice A1 n1 c1] 28)) (.cells #[.string m2, .string h2, .slice A2 n2 c2] 28)) 2; simp)
  obtain ⟨n, hn, hnn1, hnn2, hn0⟩ : ∃ n : Nat, (min (n1 : Int) (n2 : Int) = (n : Int)) ∧ n ≤ n1 ∧ n ≤ n2 ∧ (n = n1 ∨ n = n2) := ⟨min n1 n2, by omega, by omega, by omega, by omega⟩
  go_enter Tryd.func6, Tryd.ntmps6
  go_wp2_with fail
  case' inl => rw [show (n2 : Int) = (n : Int) by omega]
  case' inr => rw [show (n1 : Int) = (n : Int) by omega]
  all_goals (
    go_loopw [5, 16] (fun v5 v16 wr => ∃ (k : Nat) (a : R5), v5 = .string a.txt ∧ v16 = .int .i64 k ∧ Aside0 (k ≤ n) ∧ Aside0 (Upto l1 l2 k a) ∧ Aside0 (wr.cell? ⟨w.heap.size, 2, none⟩ = some (.slice A1 n1 c1)) ∧
      Aside0 (wr.cell? ⟨w.heap.size + 1, 2, none⟩ = some (.slice A2 n2 c2)) ∧ Aside0 (Below w.heap.size w wr)) (fun _ v _ => n - (intOf v).toNat)
    case atStart => exact ⟨0, .eq, rfl, rfl, ⟨Nat.zero_le _⟩, ⟨Upto.zero l1 l2⟩, HX0, HY0, HB0⟩
    case round =>
      clear HX0 HY0 HB0
      obtain ⟨k, a, rfl, rfl, HK, HU, HX, HY, HB⟩ := hrel
      have x0 : wr.cell? ⟨w.heap.size, 2, none⟩ = some (.slice A1 n1 c1) := HX.out
      have y0 : wr.cell? ⟨w.heap.size + 1, 2, none⟩ = some (.slice A2 n2 c2) := HY.out
      by_cases hkl : k < n
      · have d0 : decide ((k : Int) < (n : Int)) = true := decide_eq_true (by omega)
        have hn1 := HN1.out
        have hn2 := HN2.out
        obtain ⟨ad1, x, eA1, ex, p0, p1, p2⟩ := at42n (Kd.C_below HC1.out HB.out) k (by omega)
        obtain ⟨ad2, y, eA2, ey, q0, q1, q2⟩ := at42n (Kd.C_below HC2.out HB.out) k (by omega)
        subst eA1 eA2
        have HU2 := Aside0.mk (HU.out.step ex ey)
        clear ex ey hn1 hn2
        have k0 : (0 : Int) ≤ (k : Int) := by omega
        have k1 : (k : Int) < (n1 : Int) := by omega
        have k2 : (k : Int) < (n2 : Int) := by omega
        have hS0 : Below w.heap.size w wr.drew ∧ wr.drew.cell? ⟨w.heap.size, 2, none⟩ = some (.slice (some ad1) n1 c1) ∧ wr.drew.cell? ⟨w.heap.size + 1, 2, none⟩ = some (.slice (some ad2) n2 c2) ∧
            wr.drew.cell? (ad1.add (k * 3)) = some (.string x.f0) ∧ wr.drew.cell? ⟨(ad1.add (k * 3)).block, (ad1.add (k * 3)).off + 1, none⟩ = some (.bool x.f1) ∧ wr.drew.cell? ⟨(ad1.add (k * 3)).block, (ad1.add (k * 3)).off + 2, none⟩ = some (.bool x.f2) ∧
            wr.drew.cell? (ad2.add (k * 3)) = some (.string y.f0) ∧ wr.drew.cell? ⟨(ad2.add (k * 3)).block, (ad2.add (k * 3)).off + 1, none⟩ = some (.bool y.f1) ∧ wr.drew.cell? ⟨(ad2.add (k * 3)).block, (ad2.add (k * 3)).off + 2, none⟩ = some (.bool y.f2) := ⟨HB.out.drew, x0, y0, p0, p1, p2, q0, q1, q2⟩
        have hstep : Hid (∀ W W1 : World, Below W.heap.size W W1 → (Below w.heap.size w W ∧ W.cell? ⟨w.heap.size, 2, none⟩ = some (.slice (some ad1) n1 c1) ∧ W.cell? ⟨w.heap.size + 1, 2, none⟩ = some (.slice (some ad2) n2 c2) ∧ W.cell? (ad1.add (k * 3)) = some (.string x.f0) ∧ W.cell? ⟨(ad1.add (k * 3)).block, (ad1.add (k * 3)).off + 1, none⟩ = some (.bool x.f1) ∧ W.cell? ⟨(ad1.add (k * 3)).block, (ad1.add (k * 3)).off + 2, none⟩ = some (.bool x.f2) ∧ W.cell? (ad2.add (k * 3)) = some (.string y.f0) ∧ W.cell? ⟨(ad2.add (k * 3)).block, (ad2.add (k * 3)).off + 1, none⟩ = some (.bool y.f1) ∧ W.cell? ⟨(ad2.add (k * 3)).block, (ad2.add (k * 3)).off + 2, none⟩ = some (.bool y.f2)) → (Below w.heap.size w W1 ∧ W1.cell? ⟨w.heap.size, 2, none⟩ = some (.slice (some ad1) n1 c1) ∧ W1.cell? ⟨w.heap.size + 1, 2, none⟩ = some (.slice (some ad2) n2 c2) ∧ W1.cell? (ad1.add (k * 3)) = some (.string x.f0) ∧ W1.cell? ⟨(ad1.add (k * 3)).block, (ad1.add (k * 3)).off + 1, none⟩ = some (.bool x.f1) ∧ W1.cell? ⟨(ad1.add (k * 3)).block, (ad1.add (k * 3)).off + 2, none⟩ = some (.bool x.f2) ∧ W1.cell? (ad2.add (k * 3)) = some (.string y.f0) ∧ W1.cell? ⟨(ad2.add (k * 3)).block, (ad2.add (k * 3)).off + 1, none⟩ = some (.bool y.f1) ∧ W1.cell? ⟨(ad2.add (k * 3)).block, (ad2.add (k * 3)).off + 2, none⟩ = some (.bool y.f2))) := fun W W1 hb hS => ⟨below_step hS.1 hb, pw_cell_below hb hS.2.1, pw_cell_below hb hS.2.2.1, pw_cell_below hb hS.2.2.2.1, pw_cell_below hb hS.2.2.2.2.1, pw_cell_below hb hS.2.2.2.2.2.1, pw_cell_below hb hS.2.2.2.2.2.2.1, pw_cell_below hb hS.2.2.2.2.2.2.2.1, pw_cell_below hb hS.2.2.2.2.2.2.2.2⟩
        go_wp2_with fail
        go_region_held3 (fun w' => Below w.heap.size w w' ∧ w'.cell? ⟨w.heap.size, 2, none⟩ = some (.slice (some ad1) n1 c1) ∧ w'.cell? ⟨w.heap.size + 1, 2, none⟩ = some (.slice (some ad2) n2 c2) ∧
            w'.cell? (ad1.add (k * 3)) = some (.string x.f0) ∧ w'.cell? ⟨(ad1.add (k * 3)).block, (ad1.add (k * 3)).off + 1, none⟩ = some (.bool x.f1) ∧ w'.cell? ⟨(ad1.add (k * 3)).block, (ad1.add (k * 3)).off + 2, none⟩ = some (.bool x.f2) ∧
            w'.cell? (ad2.add (k * 3)) = some (.string y.f0) ∧ w'.cell? ⟨(ad2.add (k * 3)).block, (ad2.add (k * 3)).off + 1, none⟩ = some (.bool y.f1) ∧ w'.cell? ⟨(ad2.add (k * 3)).block, (ad2.add (k * 3)).off + 2, none⟩ = some (.bool y.f2))
          (first | exact hS0 | exact hstep.out _ _ (by assumption) (by assumption))
          (first
            | (go_at_call 14; refine (spec_BySegments.calls 3 _ _ _ _ _ _ _ _ (rel_f x y)).mono ?_; rintro e w1 ⟨rfl, hb⟩)
            | (go_at_call 13; refine (spec_Combine.calls 3 _ _ _ _ (comb_f a (rel x y))).mono ?_; rintro e w1 ⟨rfl, hb⟩; have hb := hb.below))
        have hSw : Below w.heap.size w w1 ∧ w1.cell? ⟨w.heap.size, 2, none⟩ = some (.slice (some ad1) n1 c1) ∧ w1.cell? ⟨w.heap.size + 1, 2, none⟩ = some (.slice (some ad2) n2 c2) ∧ w1.cell? (ad1.add (k * 3)) = some (.string x.f0) ∧ w1.cell? ⟨(ad1.add (k * 3)).block, (ad1.add (k * 3)).off + 1, none⟩ = some (.bool x.f1) ∧ w1.cell? ⟨(ad1.add (k * 3)).block, (ad1.add (k * 3)).off + 2, none⟩ = some (.bool x.f2) ∧ w1.cell? (ad2.add (k * 3)) = some (.string y.f0) ∧ w1.cell? ⟨(ad2.add (k * 3)).block, (ad2.add (k * 3)).off + 1, none⟩ = some (.bool y.f1) ∧ w1.cell? ⟨(ad2.add (k * 3)).block, (ad2.add (k * 3)).off + 2, none⟩ = some (.bool y.f2) := by assumption
        obtain ⟨sB, sx, sy, _⟩ := hSw
        have SB := Aside0.mk sB; have SX := Aside0.mk sx; have SY := Aside0.mk sy
        go_wp2_with fail
        refine ⟨⟨k + 1, _, rfl, by go_num, ⟨by omega⟩, HU2, SX, SY, SB⟩, ?_⟩
        simp [intOf]; omega
      · have d0 : decide ((k : Int) < (n : Int)) = false := decide_eq_false (by omega)
        have hk : k = n := by have := HK.out; omega
        subst hk
        clear hkl
        rcases Nat.lt_trichotomy n1 n2 with hlt | heq | hgt
        ·
          first
          | (exfalso; omega; done)
          | (
            have e0 : ((n1 : Int) == (n2 : Int)) = false := beq_eq_false_iff_ne.2 (by omega)
            have e1 : ((n1 : Int) == (k : Int)) = true := beq_iff_eq.2 (by omega)
            have e2 : ((n2 : Int) == (k : Int)) = false := beq_eq_false_iff_ne.2 (by omega)
            have hn1 := HN1.out
            have hn2 := HN2.out
            obtain ⟨ad1, x, eA1, ex, p0, p1, p2⟩ := at42n (Kd.C_below HC1.out HB.out) (k - 1) (by omega)
            subst eA1
            have EX := Lib.hid ex
            clear hn1 hn2 ex
            have k1 : (k : Int) - 1 < (n1 : Int) := by omega
            have k2 : (0 : Int) ≤ (k : Int) - 1 := by omega
            have k3 : ((k : Int) - 1).toNat = k - 1 := by omega
            cases hx2 : x.f2 with
            | true =>
              rw [hx2] at p2
              go_wp2_with fail
              refine (spec_Combine.calls 3 a.txt R5.mg.txt _ _ (comb_f a .mg)).mono ?_
              rintro e w2 ⟨rfl, hd⟩
              have HD := Aside0.mk (below_step HB.out hd.below)
              clear hd
              go_wp2_with fail
              go_ret
              have hn1 := HN1.out
              have hn2 := HN2.out
              refine ⟨a.comb .mg, rfl, fun hm => ?_, HD.out⟩
              have had : a ≠ .dj := by cases a <;> revert hm <;> decide
              refine ⟨fun i u v hu hv => HU.out.nodj had i u v (by have := (List.getElem?_eq_some_iff.1 hu).1; omega) hu hv, .inr ⟨x, ?_, hx2, by omega⟩, .inr ⟨x, List.mem_of_getElem? EX.out, hx2⟩⟩
              rw [show l1.length - 1 = k - 1 by omega]; exact EX.out
            | false =>
              rw [hx2] at p2
              go_wp2_with fail
              go_ret
              exact ⟨.dj, rfl, (fun h => by rcases h with h | h <;> cases h), HB.out⟩)
        ·
          first
          | (exfalso; omega; done)
          | (
            have e0 : ((n1 : Int) == (n2 : Int)) = true := beq_iff_eq.2 (by omega)
            go_wp2_with fail
            go_ret
            have hn1 := HN1.out
            have hn2 := HN2.out
            refine ⟨a, rfl, fun hm => ⟨fun i u v hu hv => HU.out.nodj (by rcases hm with h | h <;> rw [h] <;> decide) i u v (by have := (List.getElem?_eq_some_iff.1 hu).1; omega) hu hv, .inl (HU.out.some_mg hm), .inl (by omega)⟩, HB.out⟩)
        ·
          first
          | (exfalso; omega; done)
          | (
            have e0 : ((n1 : Int) == (n2 : Int)) = false := beq_eq_false_iff_ne.2 (by omega)
            have e1 : ((n1 : Int) == (k : Int)) = false := beq_eq_false_iff_ne.2 (by omega)
            have e2 : ((n2 : Int) == (k : Int)) = true := beq_iff_eq.2 (by omega)
            have hn1 := HN1.out
            have hn2 := HN2.out
            obtain ⟨ad2, x, eA2, ex, p0, p1, p2⟩ := at42n (Kd.C_below HC2.out HB.out) (k - 1) (by omega)
            subst eA2
            have EX := Lib.hid ex
            clear hn1 hn2 ex
            have k1 : (k : Int) - 1 < (n2 : Int) := by omega
            have k2 : (0 : Int) ≤ (k : Int) - 1 := by omega
            have k3 : ((k : Int) - 1).toNat = k - 1 := by omega
            cases hx2 : x.f2 with
            | true =>
              rw [hx2] at p2
              go_wp2_with fail
              refine (spec_Combine.calls 3 a.txt R5.ms.txt _ _ (comb_f a .ms)).mono ?_
              rintro e w2 ⟨rfl, hd⟩
              have HD := Aside0.mk (below_step HB.out hd.below)
              clear hd
              go_wp2_with fail
              go_ret
              have hn1 := HN1.out
              have hn2 := HN2.out
              refine ⟨a.comb .ms, rfl, fun hm => ?_, HD.out⟩
              have had : a = .mg ∨ a = .ov := by cases a <;> revert hm <;> decide
              refine ⟨fun i u v hu hv => HU.out.nodj (by rcases had with h | h <;> rw [h] <;> decide) i u v (by have := (List.getElem?_eq_some_iff.1 hv).1; omega) hu hv, .inl (HU.out.some_mg had), .inl (by omega)⟩
            | false =>
              rw [hx2] at p2
              go_wp2_with fail
              go_ret
              exact ⟨.dj, rfl, (fun h => by rcases h with h | h <;> cases h), HB.out⟩))
end Go.Proofs.YtmkbkpeccddejaaDoor
