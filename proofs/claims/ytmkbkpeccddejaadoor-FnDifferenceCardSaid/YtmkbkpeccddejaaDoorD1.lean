/- The walk of the program's differencePath at two patterns whose pieces are told: what it writes, byte for byte. -/
import Derived.Test.YtmkbkpeccddejaaDoorD0
namespace Go.Proofs.YtmkbkpeccddejaaDoor
open Go.RowKit PFnDifference Go.Proofs.YtmkbkpeccddejaaDoorW.PrintWords Go.Proofs.YtmkbkpeccddejaaDoorW.PrintLast Go.Proofs.YtmkbkpeccddejaaDoorW.PrintMore
set_option linter.unusedVariables false
set_option linter.unusedSimpArgs false

/-- The name is the literal: another one must be written. -/
def Tweak (x y : S42) : Prop := x.f1 = true ∧ y.f1 = false ∧ y.f2 = false ∧ x.f0.data.toList = y.f0.data.toList
instance (x y : S42) : Decidable (Tweak x y) := by unfold Tweak; infer_instance
/-- What is written for a piece beside another one. -/
def stepB (x y : S42) : List UInt8 := if Tweak x y then 47 :: (y.f0.data.toList ++ [120]) else segW x
/-- What is written for two patterns. -/
def diffB : List S42 → List S42 → List UInt8
  | x :: xs, y :: ys =>
    if x.f2 = true then (if y.f2 = true then [47] else 47 :: (if y.f0.data.toList = [47] then (if x.f0.data.toList = [] then [120] else x.f0.data.toList) else []))
    else stepB x y ++ diffB xs ys
  | x :: xs, [] => segWs (x :: xs)
  | [], ys => segWs ys
/-- Two literals at one place are one. -/
def NoClash (l1 l2 : List S42) : Prop := ∀ (i : Nat) (x y : S42), l1[i]? = some x → l2[i]? = some y → x.f1 = false → x.f2 = false → y.f1 = false → y.f2 = false → x.f0.data.toList = y.f0.data.toList
theorem NoClash.tail {x y : S42} {xs ys : List S42} (h : NoClash (x :: xs) (y :: ys)) : NoClash xs ys := fun i a b ha hb => h (i + 1) a b (by simpa using ha) (by simpa using hb)
theorem stepB_tweak {x y : S42} (h : Tweak x y) : stepB x y = 47 :: (y.f0.data.toList ++ [120]) := by unfold stepB; rw [if_pos h]
theorem stepB_len {x y : S42} (hx : x.f0.size ≤ 16) (hy : y.f0.size ≤ 16) : (stepB x y).length ≤ 18 := by
  unfold stepB
  split
  · simp only [List.length_cons, List.length_append, List.length_nil]; rw [← Lib.size_eq]; omega
  · have := segW_len x hx; omega
/-- A row less its first piece. -/
theorem cut_one {A : Option Addr} {n c : Nat} {x : S42} {xs : List S42} {S : World → Prop} (hn : n = (x :: xs).length) (hc : n ≤ c) (hC : ∀ W, S W → Kd.C k42 W A n (x :: xs)) :
    ∃ A', (∀ W, (Instr.slice 58 (.slice A n c) (some (.int .i64 1)) none none).run Tryd.prog W = .ok (.slice A' (n - 1) (c - 1)) W) ∧ n - 1 = xs.length ∧ n - 1 ≤ c - 1 ∧ ∀ W, S W → Kd.C k42 W A' (n - 1) xs := by
  have hn' : n - 1 = xs.length := by rw [hn]; simp
  have hn0 : 1 ≤ n := by rw [hn]; simp
  obtain ⟨i, hi, hsz⟩ : ∃ i, Tryd.prog.info? 62 = some i ∧ i.size = 3 := by
    have h := info62
    cases hh : Tryd.prog.info? 62 with
    | none => rw [hh] at h; cases h
    | some i => rw [hh] at h; exact ⟨i, rfl, congrArg (fun t => t.2.1) (Option.some.inj h)⟩
  have h1 := cut_from (P := Tryd.prog) 58 62 .i64 Tryd.underlying58 hi 3 hsz A n c 1 (by omega) (by omega)
  refine ⟨_, h1, hn', by omega, fun W hW => ?_⟩
  have h2 := hC W hW
  rw [hn] at h2
  have h3 := Kd.C_drop (m := 1) (c := c) h2 (by simp) (by omega)
  rw [hn']
  exact h3
theorem at_first {w : World} {A : Option Addr} {n : Nat} {x : S42} {xs : List S42} (hn : n = (x :: xs).length) (h : Kd.C k42 w A n (x :: xs)) : ∃ ad : Addr, A = some ad ∧ w.cell? ad = some (.string x.f0) ∧
    w.cell? ⟨ad.block, ad.off + 1, none⟩ = some (.bool x.f1) ∧ w.cell? ⟨ad.block, ad.off + 2, none⟩ = some (.bool x.f2) := by
  subst hn
  obtain ⟨ad, y, eA, ey, c0, c1, c2⟩ := at42n h 0 (by simp)
  have e0 : ad.add (0 * 3) = ad := by unfold Addr.add; simp
  rw [e0] at c0 c1 c2
  have : x = y := by simpa using ey
  subst this
  exact ⟨ad, eA, c0, c1, c2⟩
theorem cell_below {B : Nat} {w w' : World} (hb : Below B w w') {a : Addr} {v : Value} (hB : a.block < B) (h : w.cell? a = some v) : w'.cell? a = some v := by
  have h2 := hb.block a.block hB
  unfold World.cell? at *
  rw [h2]
  exact h

set_option maxHeartbeats 8000000 in
set_option maxRecDepth 100000 in
theorem diff_calls (p1 p2 : Nat) (a1 a2 a3 a4 b1 b2 b3 b4 : Value) (A1 A2 : Option Addr) (c1 c2 : Nat) (l1 l2 : List S42) (w : World)
    (h1 : w.heap[p1]? = some (.cells #[a1, a2, a3, .slice A1 l1.length c1, a4] 60 (0, 0))) (h2 : w.heap[p2]? = some (.cells #[b1, b2, b3, .slice A2 l2.length c2, b4] 60 (0, 0)))
    (hc1 : l1.length ≤ c1) (hc2 : l2.length ≤ c2) (hC1 : Kd.C k42 w A1 l1.length l1) (hC2 : Kd.C k42 w A2 l2.length l2)
    (hs1 : ∀ x ∈ l1, x.f0.size ≤ 16) (hs2 : ∀ x ∈ l2, x.f0.size ≤ 16) (hl1 : l1.length ≤ 6) (hl2 : l2.length ≤ 6) (hno : NoClash l1 l2) :
    Calls Tryd.prog 23 #[.pointer (some ⟨p1, 0, none⟩), .pointer (some ⟨p2, 0, none⟩)] w fun e w' => e = .returned (.string ⟨(diffB l1 l2).toArray⟩) ∧ Below w.heap.size w w' := by
  have hb0 := BB.new w
  have B0 : Below w.heap.size w (w.alloc (.cells #[.pointer none, .slice none 0 0] 57)) := below_alloc (Below.refl _ _) _
  have e1 : (w.alloc (.cells #[.pointer none, .slice none 0 0] 57)).cell? ⟨p1, 3, none⟩ = some (.slice A1 l1.length c1) := (blk_cell (blk_alloc h1 _) 3).trans rfl
  have e2 : (w.alloc (.cells #[.pointer none, .slice none 0 0] 57)).cell? ⟨p2, 3, none⟩ = some (.slice A2 l2.length c2) := (blk_cell (blk_alloc h2 _) 3).trans rfl
  have f1 := blk_frozen (blk_alloc h1 (.cells #[.pointer none, .slice none 0 0] 57)) 3
  have f2 := blk_frozen (blk_alloc h2 (.cells #[.pointer none, .slice none 0 0] 57)) 3
  have HC1 := Lib.hid hC1; have HC2 := Lib.hid hC2; have HS1 := Lib.hid hs1; have HS2 := Lib.hid hs2; have HNO := Lib.hid hno
  have HB0 := Aside0.mk hb0; have HBW := Aside0.mk B0
  obtain ⟨n1, hn1⟩ : ∃ n1, n1 = l1.length := ⟨_, rfl⟩
  obtain ⟨n2, hn2⟩ : ∃ n2, n2 = l2.length := ⟨_, rfl⟩
  rw [← hn1] at e1 hc1
  rw [← hn2] at e2 hc2
  have HN1 := Lib.hid hn1; have HN2 := Lib.hid hn2
  clear h1 h2 hC1 hC2 hs1 hs2 hno hb0 B0 hn1 hn2
  go_enter Tryd.func23, Tryd.ntmps23
  go_wp2_with fail
  go_quiet (fail)
  go_wp2_with fail
  go_loopw [6, 7] (fun v6 v7 wr => ∃ (m1 m2 : List S42) (A1 A2 : Option Addr) (n1 n2 c1 c2 : Nat) (acc : List UInt8), v6 = .slice A1 n1 c1 ∧ v7 = .slice A2 n2 c2 ∧ Aside0 (n1 = m1.length) ∧ Aside0 (n2 = m2.length) ∧ Aside0 (n1 ≤ c1) ∧ Aside0 (n2 ≤ c2) ∧
      Aside0 (∀ W, Below w.heap.size w W → Kd.C k42 W A1 n1 m1) ∧ Aside0 (∀ W, Below w.heap.size w W → Kd.C k42 W A2 n2 m2) ∧ Aside0 (∀ x ∈ m1, x.f0.size ≤ 16) ∧ Aside0 (∀ x ∈ m2, x.f0.size ≤ 16) ∧ Aside0 (NoClash m1 m2) ∧
      Aside0 (BB w.heap.size w.heap.size acc wr) ∧ Aside0 (acc ++ diffB m1 m2 = diffB l1 l2) ∧ Aside0 (acc.length + 18 * m1.length ≤ 108) ∧ Aside0 (m1.length ≤ 6) ∧ Aside0 (m2.length ≤ 6) ∧ Aside0 (Below w.heap.size w wr)) (fun v _ _ => match v with | .slice _ n _ => n | _ => 0)
  case atStart =>
    exact ⟨l1, l2, A1, A2, n1, n2, c1, c2, [], rfl, rfl, ⟨HN1.out⟩, ⟨HN2.out⟩, ⟨hc1⟩, ⟨hc2⟩, ⟨fun W hW => by rw [HN1.out]; exact Kd.C_below HC1.out hW⟩, ⟨fun W hW => by rw [HN2.out]; exact Kd.C_below HC2.out hW⟩, ⟨HS1.out⟩, ⟨HS2.out⟩, ⟨HNO.out⟩,
      ⟨HB0.out.drewN nq⟩, ⟨rfl⟩, ⟨by simp; omega⟩, ⟨hl1⟩, ⟨hl2⟩, ⟨pw_below_drewN HBW.out nq⟩⟩
  case round =>
    clear e1 e2 f1 f2 hc1 hc2 HC1 HC2 HS1 HS2 HNO HB0 HBW HN1 HN2 hl1 hl2
    obtain ⟨m1, m2, A1, A2, n1, n2, c1, c2, acc, rfl, rfl, HN1, HN2, HK1, HK2, HC1, HC2, HS1, HS2, HNO, HBB, HD, HL, HM1, HM2, HBW⟩ := hrel
    have hsz := HBW.out.size
    cases m1 with
    | nil =>
      have d0 : decide ((0 : Int) < (n1 : Int)) = false := decide_eq_false (by have := HN1.out; simp at this; omega)
      have d1 : decide (0 < n1) = false := decide_eq_false (by have := HN1.out; simp at this; omega)
      cases m2 with
      | nil =>
        have d2 : decide ((0 : Int) < (n2 : Int)) = false := decide_eq_false (by have := HN2.out; simp at this; omega)
        have d3 : decide (0 < n2) = false := decide_eq_false (by have := HN2.out; simp at this; omega)
        go_wp2_with fail
        refine (wtext _ _ acc _ HBB.out HBW.out.size).mono ?_
        rintro e w2 ⟨rfl, b2⟩
        go_wp2_with fail
        go_ret
        have hd := HD.out
        simp only [diffB, segWs, List.flatMap_nil, List.append_nil] at hd
        exact ⟨by rw [hd]; rfl, HBW.out.trans b2⟩
      | cons y ys =>
        have d2 : decide ((0 : Int) < (n2 : Int)) = true := decide_eq_true (by have := HN2.out; simp at this; omega)
        have d3 : decide (0 < n2) = true := decide_eq_true (by have := HN2.out; simp at this; omega)
        go_wp2_with fail
        obtain rfl := HN2.out
        refine (wmatching _ _ acc A2 c2 (y :: ys) _ HBB.out (by have := HL.out; omega) HM2.out HK2.out HS2.out HBW.out.size (fun W hW => HC2.out W (HBW.out.trans hW))).mono ?_
        rintro e w2 ⟨rfl, h2, b2⟩
        have H2 := Aside0.mk h2; have B2 := Aside0.mk (HBW.out.trans b2)
        clear h2 b2
        go_wp2_with fail
        refine (wtext _ _ _ _ H2.out B2.out.size).mono ?_
        rintro e w3 ⟨rfl, b3⟩
        go_wp2_with fail
        go_ret
        have hd := HD.out
        simp only [diffB] at hd
        exact ⟨by rw [hd]; rfl, B2.out.trans b3⟩
    | cons x xs =>
      have d0 : decide ((0 : Int) < (n1 : Int)) = true := decide_eq_true (by have := HN1.out; simp at this; omega)
      have d1 : decide (0 < n1) = true := decide_eq_true (by have := HN1.out; simp at this; omega)
      cases m2 with
      | nil =>
        have d2 : decide ((0 : Int) < (n2 : Int)) = false := decide_eq_false (by have := HN2.out; simp at this; omega)
        have d3 : decide (0 < n2) = false := decide_eq_false (by have := HN2.out; simp at this; omega)
        go_wp2_with fail
        obtain rfl := HN1.out
        refine (wmatching _ _ acc A1 c1 (x :: xs) _ HBB.out (by have := HL.out; omega) HM1.out HK1.out HS1.out HBW.out.size (fun W hW => HC1.out W (HBW.out.trans hW))).mono ?_
        rintro e w2 ⟨rfl, h2, b2⟩
        have H2 := Aside0.mk h2; have B2 := Aside0.mk (HBW.out.trans b2)
        clear h2 b2
        go_wp2_with fail
        refine (wtext _ _ _ _ H2.out B2.out.size).mono ?_
        rintro e w3 ⟨rfl, b3⟩
        go_wp2_with fail
        go_ret
        have hd := HD.out
        simp only [diffB] at hd
        exact ⟨by rw [hd]; rfl, B2.out.trans b3⟩
      | cons y ys =>
        have d2 : decide ((0 : Int) < (n2 : Int)) = true := decide_eq_true (by have := HN2.out; simp at this; omega)
        have d3 : decide (0 < n2) = true := decide_eq_true (by have := HN2.out; simp at this; omega)
        obtain ⟨ad1, rfl, x0, x1, x2⟩ := at_first HN1.out (HC1.out _ HBW.out)
        have HY := at_first HN2.out (HC2.out _ (HBW.out.alloc HBW.out.size (.cells #[.string x.f0, .bool x.f1, .bool x.f2] 62)))
        obtain ⟨ad2, rfl, y0, y1, y2⟩ := HY
        obtain ⟨A1', g1, hn1, hk1, hC1⟩ := cut_one HN1.out HK1.out HC1.out
        obtain ⟨A2', g2, hn2, hk2, hC2⟩ := cut_one HN2.out HK2.out HC2.out
        have hx16 := HS1.out x (by simp)
        have hy16 := HS2.out y (by simp)
        have q1 : (0 : Int) < (n1 : Int) := by have := HN1.out; simp at this; omega
        have q2 : (0 : Int) < (n2 : Int) := by have := HN2.out; simp at this; omega
        have q3 : (1 : Int) ≤ (n1 : Int) := by omega
        have q4 : (1 : Int) ≤ (n2 : Int) := by omega
        have HT1 := Lib.hid hn1; have HT2 := Lib.hid hn2; have HT3 := Lib.hid hk1; have HT4 := Lib.hid hk2; have HT5 := Lib.hid hC1; have HT6 := Lib.hid hC2
        clear hn1 hn2 hk1 hk2 hC1 hC2
        obtain ⟨f0, b1, b2⟩ := x
        obtain ⟨k0, t1, t2⟩ := y
        have HBX := Aside0.mk (blk_alloc (blk_new wr (.cells #[.string f0, .bool b1, .bool b2] 62)) (.cells #[.string k0, .bool t1, .bool t2] 62))
        have HBY := Aside0.mk (blk_new (wr.alloc (.cells #[.string f0, .bool b1, .bool b2] 62)) (.cells #[.string k0, .bool t1, .bool t2] 62))
        have HBB2 := Aside0.mk ((HBB.out.alloc (.cells #[.string f0, .bool b1, .bool b2] 62)).alloc (.cells #[.string k0, .bool t1, .bool t2] 62))
        have HBW2 := Aside0.mk (below_alloc (below_alloc HBW.out (.cells #[.string f0, .bool b1, .bool b2] 62)) (.cells #[.string k0, .bool t1, .bool t2] 62))
        have hacc : acc.length ≤ 108 := by have := HL.out; omega
        have hb1 : wr.heap.size ≠ w.heap.size := by have := HBB.out.lt; omega
        have hb2 : wr.heap.size + 1 ≠ w.heap.size := by have := HBB.out.lt; omega
        cases b2 with
        | true =>
          cases t2 with
          | true =>
            go_wp2_with fail
            refine (wbyte _ _ acc 47 (by decide) _ HBB2.out (by omega) HBW2.out.size).mono ?_
            rintro e w2 ⟨rfl, h2, b2, k2⟩
            have H2 := Aside0.mk h2; have B2 := Aside0.mk (HBW2.out.trans b2)
            clear h2 b2 k2
            have H3 := H2; have B3 := B2
            go_wp2_with fail
            refine (wtext _ _ _ _ H3.out B3.out.size).mono ?_
            rintro e w4 ⟨rfl, b4⟩
            go_wp2_with fail
            go_ret
            have hd := HD.out
            simp only [diffB] at hd
            rw [if_pos trivial, if_pos trivial] at hd
            exact ⟨by rw [← hd]; rfl, B3.out.trans b4⟩
          | false =>
            go_wp2_with fail
            refine (wbyte _ _ acc 47 (by decide) _ HBB2.out (by omega) HBW2.out.size).mono ?_
            rintro e w2 ⟨rfl, h2, b2, k2⟩
            have H2 := Aside0.mk h2; have B2 := Aside0.mk (HBW2.out.trans b2)
            have kx := blk_others HBX.out k2 (by omega) (by decide)
            have ky := blk_others HBY.out k2 (by simp; omega) (by decide)
            have u0 : w2.cell? ⟨wr.heap.size, 0, none⟩ = some (.string f0) := (blk_cell kx 0).trans rfl
            have u1 : w2.cell? ⟨wr.heap.size + 1, 0, none⟩ = some (.string k0) := by have := (blk_cell ky 0); simpa using this
            clear h2 b2 k2 kx ky
            by_cases hk : k0.data.toList = [47]
            · have n0 : (k0.toList == [47]) = true := by rw [Lib.toList_data, hk]; rfl
              have HK0 := Lib.hid hk
              clear hk
              by_cases hf : f0.data.toList = []
              · have n1 : f0.toList.isEmpty = true := by rw [Lib.toList_data, hf]; rfl
                have n2 : (f0.toList == []) = true := by rw [Lib.toList_data, hf]; rfl
                have HF0 := Lib.hid hf
                clear hf
                go_wp2_with fail
                refine (wstring _ _ _ ⟨#[120]⟩ _ H2.out (by simp only [List.length_append, List.length_cons, List.length_nil]; omega) (by decide) B2.out.size).mono ?_
                rintro e w3 ⟨rfl, h3, b3, k3⟩
                have H3 := Aside0.mk h3; have B3 := Aside0.mk (B2.out.trans b3)
                clear h3 b3 k3
                go_wp2_with fail
                refine (wtext _ _ _ _ H3.out B3.out.size).mono ?_
                rintro e w4 ⟨rfl, b4⟩
                go_wp2_with fail
                go_ret
                have hd := HD.out
                simp only [diffB] at hd
                rw [if_pos trivial, if_neg (by simp), if_pos HK0.out, if_pos HF0.out] at hd
                exact ⟨congrArg (fun t : List UInt8 => Ending.returned (Value.string ⟨t.toArray⟩)) hd, B3.out.trans b4⟩
              · have n1 : f0.toList.isEmpty = false := by rw [Lib.toList_data]; cases h : f0.data.toList with | nil => exact absurd h hf | cons a t => rfl
                have n2 : (f0.toList == []) = false := by rw [Lib.toList_data]; exact beq_eq_false_iff_ne.2 hf
                have HF0 := Lib.hid hf
                clear hf
                go_wp2_with fail
                refine (wstring _ _ _ f0 _ H2.out (by simp only [List.length_append, List.length_cons, List.length_nil]; omega) (Nat.le_trans hx16 (by decide)) B2.out.size).mono ?_
                rintro e w3 ⟨rfl, h3, b3, k3⟩
                have H3 := Aside0.mk h3; have B3 := Aside0.mk (B2.out.trans b3)
                clear h3 b3 k3
                go_wp2_with fail
                refine (wtext _ _ _ _ H3.out B3.out.size).mono ?_
                rintro e w4 ⟨rfl, b4⟩
                go_wp2_with fail
                go_ret
                have hd := HD.out
                simp only [diffB] at hd
                rw [if_pos trivial, if_neg (by simp), if_pos HK0.out, if_neg HF0.out] at hd
                exact ⟨congrArg (fun t : List UInt8 => Ending.returned (Value.string ⟨t.toArray⟩)) hd, B3.out.trans b4⟩
            · have n0 : (k0.toList == [47]) = false := by rw [Lib.toList_data]; exact beq_eq_false_iff_ne.2 hk
              have HK0 := Lib.hid hk
              clear hk
              have H3 := H2; have B3 := B2
              go_wp2_with fail
              refine (wtext _ _ _ _ H3.out B3.out.size).mono ?_
              rintro e w4 ⟨rfl, b4⟩
              go_wp2_with fail
              go_ret
              have hd := HD.out
              simp only [diffB] at hd
              rw [if_pos trivial, if_neg (by simp), if_neg HK0.out] at hd
              exact ⟨by rw [← hd]; rfl, B3.out.trans b4⟩
        | false =>
          cases t2 with
          | true =>
            go_wp2_with fail
            refine (wseg _ _ acc (⟨f0, b1, false⟩ : S42) _ HBB2.out (by omega) (Nat.le_trans hx16 (by decide)) HBW2.out.size).mono ?_
            rintro e w2 ⟨rfl, h2, b2, k2⟩
            have H2 := Aside0.mk h2; have B2 := Aside0.mk (HBW2.out.trans b2)
            clear h2 b2 k2
            clear HBX HBY HBB2 HBW2 x0 x1 x2 y0 y1 y2
            go_wp2_with fail
            go_quiet (fail)
            refine ⟨?_, ?measure⟩
            (repeat apply Exists.intro)
            refine ⟨?rel, rfl⟩
            case rel =>
              refine ⟨xs, ys, A1', A2', n1 - 1, n2 - 1, c1 - 1, c2 - 1, _, rfl, rfl, ⟨HT1.out⟩, ⟨HT2.out⟩, ⟨HT3.out⟩, ⟨HT4.out⟩, ⟨HT5.out⟩, ⟨HT6.out⟩, ⟨fun z hz => HS1.out z (by simp [hz])⟩, ⟨fun z hz => HS2.out z (by simp [hz])⟩, ⟨HNO.out.tail⟩, ⟨H2.out.drewN nq⟩, ⟨?_⟩, ⟨?_⟩, ⟨by have := HM1.out; simp at this; omega⟩, ⟨by have := HM2.out; simp at this; omega⟩, ⟨pw_below_drewN B2.out nq⟩⟩
              · rw [← HD.out]
                show _ = acc ++ (if _ then _ else _)
                rw [if_neg (by simp), List.append_assoc]
                exact congrArg (acc ++ ·) (show segW _ ++ _ = _ from by unfold stepB; rw [if_neg (fun hh : Tweak _ _ => by cases hh.2.2.1)])
              · have := HL.out; have h18 := segW_len (⟨f0, b1, false⟩ : S42) hx16; simp only [List.length_append, List.length_cons] at this h18 ⊢; omega
            case measure => show n1 - 1 < n1; omega
          | false =>
            cases b1 with
            | true =>
              cases t1 with
              | true =>
                go_wp2_with fail
                refine (wseg _ _ acc (⟨f0, true, false⟩ : S42) _ HBB2.out (by omega) (Nat.le_trans hx16 (by decide)) HBW2.out.size).mono ?_
                rintro e w2 ⟨rfl, h2, b2, k2⟩
                have H2 := Aside0.mk h2; have B2 := Aside0.mk (HBW2.out.trans b2)
                clear h2 b2 k2
                clear HBX HBY HBB2 HBW2 x0 x1 x2 y0 y1 y2
                go_wp2_with fail
                go_quiet (fail)
                refine ⟨?_, ?measure⟩
                (repeat apply Exists.intro)
                refine ⟨?rel, rfl⟩
                case rel =>
                  refine ⟨xs, ys, A1', A2', n1 - 1, n2 - 1, c1 - 1, c2 - 1, _, rfl, rfl, ⟨HT1.out⟩, ⟨HT2.out⟩, ⟨HT3.out⟩, ⟨HT4.out⟩, ⟨HT5.out⟩, ⟨HT6.out⟩, ⟨fun z hz => HS1.out z (by simp [hz])⟩, ⟨fun z hz => HS2.out z (by simp [hz])⟩, ⟨HNO.out.tail⟩, ⟨H2.out.drewN nq⟩, ⟨?_⟩, ⟨?_⟩, ⟨by have := HM1.out; simp at this; omega⟩, ⟨by have := HM2.out; simp at this; omega⟩, ⟨pw_below_drewN B2.out nq⟩⟩
                  · rw [← HD.out]
                    show _ = acc ++ (if _ then _ else _)
                    rw [if_neg (by simp), List.append_assoc]
                    exact congrArg (acc ++ ·) (show segW _ ++ _ = _ from by unfold stepB; rw [if_neg (fun hh : Tweak _ _ => by cases hh.2.1)])
                  · have := HL.out; have h18 := segW_len (⟨f0, true, false⟩ : S42) hx16; simp only [List.length_append, List.length_cons] at this h18 ⊢; omega
                case measure => show n1 - 1 < n1; omega
              | false =>
                by_cases hk : f0.data.toList = k0.data.toList
                · have n0 : (f0.toList == k0.toList) = true := by rw [Lib.toList_data, Lib.toList_data]; exact beq_iff_eq.2 hk
                  have HK0 := Lib.hid hk
                  obtain ⟨ks, hks⟩ : ∃ ks : ByteArray, ks = k0 ++ ⟨#[120]⟩ := ⟨_, rfl⟩
                  have hz1 : (⟨#[120]⟩ : ByteArray).size = 1 := rfl
                  have hkz : ks.size ≤ 17 := by rw [hks, ByteArray.size_append, hz1]; have hz : k0.size ≤ 16 := hy16; omega
                  have hadd : ∀ W, (Op.stringOp .add k0 ⟨#[120]⟩).run Tryd.prog W = .ok (.string ks) W := fun W => by rw [hks]; exact run_string_add_sum W k0 _ (by rw [hz1]; have hz : k0.size ≤ 16 := hy16; omega)
                  have hkl : ks.data.toList = k0.data.toList ++ [120] := by rw [hks, ByteArray.data_append, Array.toList_append]
                  have HKL := Lib.hid hkl
                  clear hks hz1 hkl
                  clear hk
                  go_wp2_with fail
                  refine (wbyte _ _ acc 47 (by decide) _ HBB2.out (by omega) HBW2.out.size).mono ?_
                  rintro e w2 ⟨rfl, h2, b2, k2⟩
                  have H2 := Aside0.mk h2; have B2 := Aside0.mk (HBW2.out.trans b2)
                  have kx := blk_others HBX.out k2 (by omega) (by decide)
                  have ky := blk_others HBY.out k2 (by simp; omega) (by decide)
                  have u0 : w2.cell? ⟨wr.heap.size, 0, none⟩ = some (.string f0) := (blk_cell kx 0).trans rfl
                  have u1 : w2.cell? ⟨wr.heap.size + 1, 0, none⟩ = some (.string k0) := by have := (blk_cell ky 0); simpa using this
                  clear h2 b2 k2 kx ky
                  go_wp2_with fail
                  refine (wstring _ _ _ ks _ H2.out (by simp only [List.length_append, List.length_cons, List.length_nil]; omega) (by omega) B2.out.size).mono ?_
                  rintro e w3 ⟨rfl, h3, b3, k3⟩
                  have H3 := Aside0.mk h3; have B3 := Aside0.mk (B2.out.trans b3)
                  clear h3 b3 k3
                  clear u0 u1
                  clear HBX HBY HBB2 HBW2 x0 x1 x2 y0 y1 y2
                  go_wp2_with fail
                  go_quiet (fail)
                  refine ⟨?_, ?measure⟩
                  (repeat apply Exists.intro)
                  refine ⟨?rel, rfl⟩
                  case rel =>
                    refine ⟨xs, ys, A1', A2', n1 - 1, n2 - 1, c1 - 1, c2 - 1, _, rfl, rfl, ⟨HT1.out⟩, ⟨HT2.out⟩, ⟨HT3.out⟩, ⟨HT4.out⟩, ⟨HT5.out⟩, ⟨HT6.out⟩, ⟨fun z hz => HS1.out z (by simp [hz])⟩, ⟨fun z hz => HS2.out z (by simp [hz])⟩, ⟨HNO.out.tail⟩, ⟨H3.out.drewN nq⟩, ⟨?_⟩, ⟨?_⟩, ⟨by have := HM1.out; simp at this; omega⟩, ⟨by have := HM2.out; simp at this; omega⟩, ⟨pw_below_drewN B3.out nq⟩⟩
                    · rw [← HD.out]
                      show _ = acc ++ (if _ then _ else _)
                      rw [if_neg (by simp), List.append_assoc]
                      rw [stepB_tweak (x := ⟨f0, true, false⟩) (y := ⟨k0, false, false⟩) ⟨rfl, rfl, rfl, HK0.out⟩, HKL.out]; simp
                    · have := HL.out; have h16 : k0.data.toList.length ≤ 16 := by rw [← Lib.size_eq]; exact hy16
                      simp at this ⊢; omega
                  case measure => show n1 - 1 < n1; omega
                · have n0 : (f0.toList == k0.toList) = false := by rw [Lib.toList_data, Lib.toList_data]; exact beq_eq_false_iff_ne.2 hk
                  have HK0 := Lib.hid hk
                  clear hk
                  go_wp2_with fail
                  refine (wseg _ _ acc (⟨f0, true, false⟩ : S42) _ HBB2.out (by omega) (Nat.le_trans hx16 (by decide)) HBW2.out.size).mono ?_
                  rintro e w2 ⟨rfl, h2, b2, k2⟩
                  have H2 := Aside0.mk h2; have B2 := Aside0.mk (HBW2.out.trans b2)
                  clear h2 b2 k2
                  clear HBX HBY HBB2 HBW2 x0 x1 x2 y0 y1 y2
                  go_wp2_with fail
                  go_quiet (fail)
                  refine ⟨?_, ?measure⟩
                  (repeat apply Exists.intro)
                  refine ⟨?rel, rfl⟩
                  case rel =>
                    refine ⟨xs, ys, A1', A2', n1 - 1, n2 - 1, c1 - 1, c2 - 1, _, rfl, rfl, ⟨HT1.out⟩, ⟨HT2.out⟩, ⟨HT3.out⟩, ⟨HT4.out⟩, ⟨HT5.out⟩, ⟨HT6.out⟩, ⟨fun z hz => HS1.out z (by simp [hz])⟩, ⟨fun z hz => HS2.out z (by simp [hz])⟩, ⟨HNO.out.tail⟩, ⟨H2.out.drewN nq⟩, ⟨?_⟩, ⟨?_⟩, ⟨by have := HM1.out; simp at this; omega⟩, ⟨by have := HM2.out; simp at this; omega⟩, ⟨pw_below_drewN B2.out nq⟩⟩
                    · rw [← HD.out]
                      show _ = acc ++ (if _ then _ else _)
                      rw [if_neg (by simp), List.append_assoc]
                      exact congrArg (acc ++ ·) (show segW _ ++ _ = _ from by unfold stepB; rw [if_neg (fun hh : Tweak _ _ => HK0.out hh.2.2.2)])
                    · have := HL.out; have h18 := segW_len (⟨f0, true, false⟩ : S42) hx16; simp only [List.length_append, List.length_cons] at this h18 ⊢; omega
                  case measure => show n1 - 1 < n1; omega
            | false =>
              cases t1 with
              | true =>
                go_wp2_with fail
                refine (wseg _ _ acc (⟨f0, false, false⟩ : S42) _ HBB2.out (by omega) (Nat.le_trans hx16 (by decide)) HBW2.out.size).mono ?_
                rintro e w2 ⟨rfl, h2, b2, k2⟩
                have H2 := Aside0.mk h2; have B2 := Aside0.mk (HBW2.out.trans b2)
                clear h2 b2 k2
                clear HBX HBY HBB2 HBW2 x0 x1 x2 y0 y1 y2
                go_wp2_with fail
                go_quiet (fail)
                refine ⟨?_, ?measure⟩
                (repeat apply Exists.intro)
                refine ⟨?rel, rfl⟩
                case rel =>
                  refine ⟨xs, ys, A1', A2', n1 - 1, n2 - 1, c1 - 1, c2 - 1, _, rfl, rfl, ⟨HT1.out⟩, ⟨HT2.out⟩, ⟨HT3.out⟩, ⟨HT4.out⟩, ⟨HT5.out⟩, ⟨HT6.out⟩, ⟨fun z hz => HS1.out z (by simp [hz])⟩, ⟨fun z hz => HS2.out z (by simp [hz])⟩, ⟨HNO.out.tail⟩, ⟨H2.out.drewN nq⟩, ⟨?_⟩, ⟨?_⟩, ⟨by have := HM1.out; simp at this; omega⟩, ⟨by have := HM2.out; simp at this; omega⟩, ⟨pw_below_drewN B2.out nq⟩⟩
                  · rw [← HD.out]
                    show _ = acc ++ (if _ then _ else _)
                    rw [if_neg (by simp), List.append_assoc]
                    exact congrArg (acc ++ ·) (show segW _ ++ _ = _ from by unfold stepB; rw [if_neg (fun hh : Tweak _ _ => by cases hh.1)])
                  · have := HL.out; have h18 := segW_len (⟨f0, false, false⟩ : S42) hx16; simp only [List.length_append, List.length_cons] at this h18 ⊢; omega
                case measure => show n1 - 1 < n1; omega
              | false =>
                have hk := HNO.out 0 _ _ rfl rfl rfl rfl rfl rfl
                have n0 : (f0.toList == k0.toList) = true := by rw [Lib.toList_data, Lib.toList_data]; exact beq_iff_eq.2 hk
                clear hk
                go_wp2_with fail
                refine (wseg _ _ acc (⟨f0, false, false⟩ : S42) _ HBB2.out (by omega) (Nat.le_trans hx16 (by decide)) HBW2.out.size).mono ?_
                rintro e w2 ⟨rfl, h2, b2, k2⟩
                have H2 := Aside0.mk h2; have B2 := Aside0.mk (HBW2.out.trans b2)
                clear h2 b2 k2
                clear HBX HBY HBB2 HBW2 x0 x1 x2 y0 y1 y2
                go_wp2_with fail
                go_quiet (fail)
                refine ⟨?_, ?measure⟩
                (repeat apply Exists.intro)
                refine ⟨?rel, rfl⟩
                case rel =>
                  refine ⟨xs, ys, A1', A2', n1 - 1, n2 - 1, c1 - 1, c2 - 1, _, rfl, rfl, ⟨HT1.out⟩, ⟨HT2.out⟩, ⟨HT3.out⟩, ⟨HT4.out⟩, ⟨HT5.out⟩, ⟨HT6.out⟩, ⟨fun z hz => HS1.out z (by simp [hz])⟩, ⟨fun z hz => HS2.out z (by simp [hz])⟩, ⟨HNO.out.tail⟩, ⟨H2.out.drewN nq⟩, ⟨?_⟩, ⟨?_⟩, ⟨by have := HM1.out; simp at this; omega⟩, ⟨by have := HM2.out; simp at this; omega⟩, ⟨pw_below_drewN B2.out nq⟩⟩
                  · rw [← HD.out]
                    show _ = acc ++ (if _ then _ else _)
                    rw [if_neg (by simp), List.append_assoc]
                    exact congrArg (acc ++ ·) (show segW _ ++ _ = _ from by unfold stepB; rw [if_neg (fun hh : Tweak _ _ => by cases hh.1)])
                  · have := HL.out; have h18 := segW_len (⟨f0, false, false⟩ : S42) hx16; simp only [List.length_append, List.length_cons] at this h18 ⊢; omega
                case measure => show n1 - 1 < n1; omega
end Go.Proofs.YtmkbkpeccddejaaDoor
