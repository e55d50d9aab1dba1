/- The walk of the reference's Good: where it says yes, the pattern is good. -/
import Derived.Test.YtmkbkpeccddejaaDoorP4
import Derived.Test.YtmkbkpeccddejaaDoorS1
namespace Go.Proofs.YtmkbkpeccddejaaDoor
open Go.RowKit PFnDifference Go.Proofs.YtmkbkpeccddejaaDoorW.PrintWords Go.Proofs.YtmkbkpeccddejaaDoorW.PrintLast Go.Proofs.YtmkbkpeccddejaaDoorW.PrintMore
set_option linter.unusedVariables false
set_option linter.unusedSimpArgs false

/-- The first k pieces are good. -/
structure GoodTo (l : List S42) (k : Nat) : Prop where
  kind : ∀ (i : Nat) (x : S42), i < k → l[i]? = some x → x.f0.size ≤ 16 ∧ Kind x (i + 1 = l.length)
  apart : ∀ (i j : Nat) (x y : S42), j < i → i < k → l[i]? = some x → l[j]? = some y → x.f1 = true → y.f1 = true → x.f0.toList ≠ y.f0.toList
theorem GoodTo.zero (l : List S42) : GoodTo l 0 := ⟨fun i x hi => by omega, fun i j x y _ hi => by omega⟩
theorem GoodTo.step {l : List S42} {k : Nat} {x : S42} (h : GoodTo l k) (hx : l[k]? = some x) (h16 : x.f0.size ≤ 16) (hk : Kind x (k + 1 = l.length))
    (ha : ∀ (j : Nat) (y : S42), j < k → l[j]? = some y → x.f1 = true → y.f1 = true → x.f0.toList ≠ y.f0.toList) : GoodTo l (k + 1) := by
  refine ⟨fun i u hi hu => ?_, fun i j u v hj hi hu hv => ?_⟩
  · rcases Nat.lt_or_ge i k with h1 | h1
    · exact h.kind i u h1 hu
    · have : i = k := by omega
      subst this
      rw [hx] at hu
      cases hu
      exact ⟨h16, hk⟩
  · rcases Nat.lt_or_ge i k with h1 | h1
    · exact h.apart i j u v hj h1 hu hv
    · have : i = k := by omega
      subst this
      rw [hx] at hu
      cases hu
      exact ha j v hj hv
theorem GoodTo.all {l : List S42} {k : Nat} (h : GoodTo l k) (hk : l.length ≤ k) (h0 : 0 < l.length) (h6 : l.length ≤ 6) : GoodL l :=
  ⟨h0, h6, fun i x hx => h.kind i x (by have := (List.getElem?_eq_some_iff.1 hx).1; omega) hx, fun i j x y hj hx hy => h.apart i j x y hj (by have := (List.getElem?_eq_some_iff.1 hx).1; omega) hx hy⟩
/-- What Good says. -/
def SaysGood (m h : ByteArray) (l : List S42) (w : World) (e : Ending) (w' : World) : Prop := ∃ b : Bool, e = .returned (.bool b) ∧ (b = true → GoodP m h l) ∧ Below w.heap.size w w'
theorem info42' : ∃ i, Tryd.prog.info? 42 = some i ∧ i.size = 3 := by
  have h : (Tryd.prog.info? 42).map (fun i => (i.zero, i.size, i.bytes)) = some (some (.agg #[(.string ⟨#[]⟩), (.bool false), (.bool false)]), 3, 24) := info42
  cases hh : Tryd.prog.info? 42 with
  | none => rw [hh] at h; cases h
  | some i => rw [hh] at h; exact ⟨i, rfl, congrArg (fun t => t.2.1) (Option.some.inj h)⟩
set_option maxHeartbeats 8000000 in
set_option maxRecDepth 100000 in
theorem good_calls (m h : ByteArray) (A : Option Addr) (c : Nat) (l : List S42) (w : World) (hm : m.size ≤ 2147483647) (hh : h.size ≤ 2147483647) (hl : l.length ≤ 2147483647) (hs : ∀ x ∈ l, x.f0.size ≤ 2147483647)
    (hC : Kd.C k42 w A l.length l) (hc : l.length ≤ c) :
    Calls Tryd.prog 12 #[.agg #[.string m, .string h, .slice A l.length c]] w (SaysGood m h l w) := by
  have HC := Lib.hid hC; have HS := Lib.hid hs
  clear hC hs
  obtain ⟨n, hn⟩ : ∃ n, n = l.length := ⟨_, rfl⟩
  rw [← hn] at hl hc ⊢
  have HN := Lib.hid hn
  clear hn
  have HB0 := Aside0.mk (below_alloc (Below.refl w.heap.size w) (.cells #[.string m, .string h, .slice A n c] 28))
  have HX0 : Aside0 ((w.alloc (.cells #[.string m, .string h, .slice A n c] 28)).cell? ⟨w.heap.size, 2, none⟩ = some (.slice A n c)) := Aside0.mk ((blk_cell (blk_new w (.cells #[.string m, .string h, .slice A n c] 28)) 2).trans rfl)
  obtain ⟨inf42, hi42, hz42⟩ := info42'
  have HI42 := Lib.hid hi42; have HZ42 := Lib.hid hz42
  clear hi42 hz42
  go_enter Tryd.func12, Tryd.ntmps12
  try simp only [List.append_eq, List.cons_append, List.nil_append]
  go_wp2_with fail
  refine (method_says m _ hm).mono ?_
  rintro e w2 ⟨bm, rfl, hbm, rfl⟩
  have HBM := Lib.hid hbm
  clear hbm
  cases bm with
  | false =>
    go_wp2_with fail
    go_ret
    exact ⟨false, rfl, (fun h => by cases h), HB0.out⟩
  | true =>
    go_wp2_with fail
    refine (host_says h _ hh).mono ?_
    rintro e w2 ⟨bh, rfl, hbh, rfl⟩
    have HBH := Lib.hid hbh
    clear hbh
    cases bh with
    | false =>
      go_wp2_with fail
      go_ret
      exact ⟨false, rfl, (fun h => by cases h), HB0.out⟩
    | true =>
      by_cases h0 : n < 1
      · have z0 : ((n : Int) == 0) = true := beq_iff_eq.2 (by omega)
        go_wp2_with fail
        go_ret
        exact ⟨false, rfl, (fun h => by cases h), HB0.out⟩
      · have z0 : ((n : Int) == 0) = false := beq_eq_false_iff_ne.2 (by omega)
        by_cases h6 : 6 < n
        · have z6 : decide ((6 : Int) < (n : Int)) = true := decide_eq_true (by omega)
          have z7 : decide (6 < n) = true := decide_eq_true h6
          go_wp2_with fail
          go_ret
          exact ⟨false, rfl, (fun h => by cases h), HB0.out⟩
        · have z6 : decide ((6 : Int) < (n : Int)) = false := decide_eq_false (by omega)
          have z7 : decide (6 < n) = false := decide_eq_false h6
          go_wp2_with fail
          clear z0 z6 z7
          go_loopw [33] (fun v wr => ∃ k : Nat, v = .int .i64 k ∧ Aside0 (k ≤ n) ∧ Aside0 (GoodTo l k) ∧ Aside0 (wr.cell? ⟨w.heap.size, 2, none⟩ = some (.slice A n c)) ∧ Aside0 (Below w.heap.size w wr)) (fun v _ => n - (intOf v).toNat)
          case atStart => exact ⟨0, rfl, ⟨Nat.zero_le _⟩, ⟨GoodTo.zero l⟩, HX0, HB0⟩
          case round =>
            clear HX0 HB0
            obtain ⟨k, rfl, HK, HG, HX, HB⟩ := hrel
            obtain ⟨wo, rfl⟩ : ∃ wo, wo = wr := ⟨_, rfl⟩
            have x0 := HX.out
            by_cases hkl : k < n
            · have d0 : decide ((k : Int) < (n : Int)) = true := decide_eq_true (by omega)
              have hn := HN.out
              obtain ⟨ad, x, eA, ex, p0, p1, p2⟩ := at42n (Kd.C_below HC.out HB.out) k (by omega)
              subst eA
              have hx31 := HS.out x (List.mem_of_getElem? ex)
              have EX := Lib.hid ex
              clear hn ex
              have k0 : (0 : Int) ≤ (k : Int) := by omega
              have k1 : (k : Int) < (n : Int) := by omega
              have k1' : (k : Int) ≤ (n : Int) := by omega
              have hcut := cut_to (P := Tryd.prog) 26 42 .i64 Tryd.underlying26 HI42.out (some ad) n c (k : Int) k0 k1' hc
              rw [Int.toNat_natCast] at hcut
              have hw0 : w.heap.size < wo.heap.size := World.block_lt_of_cell? wo ⟨w.heap.size, 2, none⟩ x0
              have x0' : (wo.alloc (.cells #[.string x.f0, .bool x.f1, .bool x.f2] 42)).cell? ⟨w.heap.size, 2, none⟩ = some (.slice (some ad) n c) := pw_cell_below (below_alloc (Below.refl _ _) _) x0
              have HBX := Aside0.mk (below_alloc HB.out (.cells #[.string x.f0, .bool x.f1, .bool x.f2] 42))
              have HBK := Aside0.mk (blk_new wo (.cells #[.string x.f0, .bool x.f1, .bool x.f2] 42))
              obtain ⟨f0, f1, f2⟩ := x
              have hx31' : f0.size ≤ 2147483647 := hx31
              clear hx31
              by_cases hz : 16 < f0.size
              · have z1 : decide ((16 : Int) < (f0.size : Int)) = true := decide_eq_true (by omega)
                have z2 : decide (16 < f0.size) = true := decide_eq_true hz
                go_wp2_with fail
                go_ret
                exact ⟨false, rfl, (fun h => by cases h), HBX.out⟩
              · have z1 : decide ((16 : Int) < (f0.size : Int)) = false := decide_eq_false (by omega)
                have z2 : decide (16 < f0.size) = false := decide_eq_false hz
                by_cases hlast : k + 1 = n
                · have el : ((k : Int) == (n : Int) - 1) = true := beq_iff_eq.2 (by omega)
                  have hll : (k + 1 = l.length) = True := by rw [← HN.out]; simp [hlast]
                  have HLL := Lib.hid hll
                  clear hll
                  cases f2 with
                  | true =>
                    cases f1 with
                    | false =>
                      go_wp2_with fail
                      go_ret
                      exact ⟨false, rfl, (fun h => by cases h), HBX.out⟩
                    | true =>
                      by_cases he : f0.data.toList = []
                      · obtain ⟨n0, n1, _⟩ := isEmpty_yes he
                        have hg16 : f0.size ≤ 16 := by omega
                        have HKIND := Lib.hid (show Kind (⟨f0, true, true⟩ : S42) (k + 1 = l.length) from .slash he rfl rfl (by rw [HLL.out]; trivial))
                        go_wp2_with fail
                        go_loopw [119] (fun v wr => ∃ j : Nat, v = .int .i64 j ∧ Aside0 (j ≤ k) ∧ Aside0 (∀ (i : Nat) (y : S42), i < j → l[i]? = some y → true = true → y.f1 = true → f0.toList ≠ y.f0.toList) ∧ Aside0 (Below (wo.alloc (.cells #[.string f0, .bool true, .bool true] 42)).heap.size (wo.alloc (.cells #[.string f0, .bool true, .bool true] 42)) wr)) (fun v _ => k - (intOf v).toNat)
                        case atStart => exact ⟨0, rfl, ⟨Nat.zero_le _⟩, ⟨fun i y hi => absurd hi (by omega)⟩, ⟨Below.refl _ _⟩⟩
                        case round =>
                          obtain ⟨j, rfl, HJ, HA, HBI⟩ := hrel
                          have bi := blk_below HBK.out HBI.out
                          have i0 : wr.cell? ⟨wo.heap.size, 0, none⟩ = some (.string f0) := (blk_cell bi 0).trans rfl
                          have i1 : wr.cell? ⟨wo.heap.size, 1, none⟩ = some (.bool true) := (blk_cell bi 1).trans rfl
                          have xi := pw_cell_below HBI.out x0'
                          by_cases hjk : j < k
                          · have d1 : decide ((j : Int) < (k : Int)) = true := decide_eq_true (by omega)
                            have hn := HN.out
                            obtain ⟨ad3, y, eA3, ey, q0, q1, q2⟩ := at42n (Kd.C_below HC.out (below_step HBX.out HBI.out)) j (by omega)
                            have ead : ad3 = ad := (Option.some.inj eA3).symm
                            subst ead
                            have EY := Lib.hid ey
                            clear hn ey eA3 bi
                            have j0 : (0 : Int) ≤ (j : Int) := by omega
                            have j1 : (j : Int) < (k : Int) := by omega
                            have j2 : (j : Int) < (n : Int) := by omega
                            have HBI2 := Aside0.mk (below_alloc HBI.out (.cells #[.string y.f0, .bool y.f1, .bool y.f2] 42))
                            obtain ⟨y0, y1, y2⟩ := y
                            have i2 : (wr.alloc (.cells #[.string y0, .bool y1, .bool y2] 42)).cell? ⟨wo.heap.size, 0, none⟩ = some (.string f0) := pw_cell_below (below_alloc (Below.refl _ _) _) i0
                            have i3 : (wr.alloc (.cells #[.string y0, .bool y1, .bool y2] 42)).cell? ⟨wo.heap.size, 1, none⟩ = some (.bool true) := pw_cell_below (below_alloc (Below.refl _ _) _) i1
                            cases y1 with
                            | false =>
                              go_wp2_with fail
                              refine ⟨⟨j + 1, by go_num, ⟨by omega⟩, ⟨fun i z hi hz h1 h2 => ?_⟩, HBI2⟩, ?_⟩
                              · rcases Nat.lt_or_ge i j with h3 | h3
                                · exact HA.out i z h3 hz (by first | rfl | exact h1) h2
                                · have h4 : i = j := by omega
                                  subst h4
                                  have h5 := EY.out; rw [hz] at h5; cases h5
                                  cases h2
                              · simp [intOf]; omega
                            | true =>
                              by_cases hne : f0.toList = y0.toList
                              · have e1 : (f0.toList == y0.toList) = true := beq_iff_eq.2 hne
                                go_wp2_with fail
                                go_ret
                                exact ⟨false, rfl, (fun h => by cases h), below_step HBX.out HBI2.out⟩
                              · have e1 : (f0.toList == y0.toList) = false := beq_eq_false_iff_ne.2 hne
                                have HNE := Lib.hid hne
                                clear hne
                                go_wp2_with fail
                                refine ⟨⟨j + 1, by go_num, ⟨by omega⟩, ⟨fun i z hi hz h1 h2 => ?_⟩, HBI2⟩, ?_⟩
                                · rcases Nat.lt_or_ge i j with h3 | h3
                                  · exact HA.out i z h3 hz (by first | rfl | exact h1) h2
                                  · have h4 : i = j := by omega
                                    subst h4
                                    have h5 := EY.out; rw [hz] at h5; cases h5
                                    exact HNE.out
                                · simp [intOf]; omega
                          · have d1 : decide ((j : Int) < (k : Int)) = false := decide_eq_false (by omega)
                            go_wp2_with fail
                            refine ⟨⟨k + 1, by go_num, ⟨by omega⟩, ⟨HG.out.step EX.out hg16 HKIND.out (fun i y hi hy h1 h2 => HA.out i y (by omega) hy h1 h2)⟩, ⟨xi⟩, ⟨below_step HBX.out HBI.out⟩⟩, ?_⟩
                            simp [intOf]; omega
                      · obtain ⟨n0, n1⟩ := isEmpty_no he
                        have HE := Lib.hid he
                        clear he
                        go_wp2_with fail
                        refine (name_says f0 _ hx31').mono ?_
                        rintro e w2 ⟨bn, rfl, hbn, rfl⟩
                        have HBN := Lib.hid hbn
                        clear hbn
                        cases bn with
                        | false =>
                          go_wp2_with fail
                          go_ret
                          exact ⟨false, rfl, (fun h => by cases h), HBX.out⟩
                        | true =>
                          have hg16 : f0.size ≤ 16 := by omega
                          have HKIND := Lib.hid (show Kind (⟨f0, true, true⟩ : S42) (k + 1 = l.length) from .multi (HBN.out (by first | rfl | trivial)) rfl rfl (by rw [HLL.out]; trivial))
                          go_wp2_with fail
                          go_loopw [119] (fun v wr => ∃ j : Nat, v = .int .i64 j ∧ Aside0 (j ≤ k) ∧ Aside0 (∀ (i : Nat) (y : S42), i < j → l[i]? = some y → true = true → y.f1 = true → f0.toList ≠ y.f0.toList) ∧ Aside0 (Below (wo.alloc (.cells #[.string f0, .bool true, .bool true] 42)).heap.size (wo.alloc (.cells #[.string f0, .bool true, .bool true] 42)) wr)) (fun v _ => k - (intOf v).toNat)
                          case atStart => exact ⟨0, rfl, ⟨Nat.zero_le _⟩, ⟨fun i y hi => absurd hi (by omega)⟩, ⟨Below.refl _ _⟩⟩
                          case round =>
                            obtain ⟨j, rfl, HJ, HA, HBI⟩ := hrel
                            have bi := blk_below HBK.out HBI.out
                            have i0 : wr.cell? ⟨wo.heap.size, 0, none⟩ = some (.string f0) := (blk_cell bi 0).trans rfl
                            have i1 : wr.cell? ⟨wo.heap.size, 1, none⟩ = some (.bool true) := (blk_cell bi 1).trans rfl
                            have xi := pw_cell_below HBI.out x0'
                            by_cases hjk : j < k
                            · have d1 : decide ((j : Int) < (k : Int)) = true := decide_eq_true (by omega)
                              have hn := HN.out
                              obtain ⟨ad3, y, eA3, ey, q0, q1, q2⟩ := at42n (Kd.C_below HC.out (below_step HBX.out HBI.out)) j (by omega)
                              have ead : ad3 = ad := (Option.some.inj eA3).symm
                              subst ead
                              have EY := Lib.hid ey
                              clear hn ey eA3 bi
                              have j0 : (0 : Int) ≤ (j : Int) := by omega
                              have j1 : (j : Int) < (k : Int) := by omega
                              have j2 : (j : Int) < (n : Int) := by omega
                              have HBI2 := Aside0.mk (below_alloc HBI.out (.cells #[.string y.f0, .bool y.f1, .bool y.f2] 42))
                              obtain ⟨y0, y1, y2⟩ := y
                              have i2 : (wr.alloc (.cells #[.string y0, .bool y1, .bool y2] 42)).cell? ⟨wo.heap.size, 0, none⟩ = some (.string f0) := pw_cell_below (below_alloc (Below.refl _ _) _) i0
                              have i3 : (wr.alloc (.cells #[.string y0, .bool y1, .bool y2] 42)).cell? ⟨wo.heap.size, 1, none⟩ = some (.bool true) := pw_cell_below (below_alloc (Below.refl _ _) _) i1
                              cases y1 with
                              | false =>
                                go_wp2_with fail
                                refine ⟨⟨j + 1, by go_num, ⟨by omega⟩, ⟨fun i z hi hz h1 h2 => ?_⟩, HBI2⟩, ?_⟩
                                · rcases Nat.lt_or_ge i j with h3 | h3
                                  · exact HA.out i z h3 hz (by first | rfl | exact h1) h2
                                  · have h4 : i = j := by omega
                                    subst h4
                                    have h5 := EY.out; rw [hz] at h5; cases h5
                                    cases h2
                                · simp [intOf]; omega
                              | true =>
                                by_cases hne : f0.toList = y0.toList
                                · have e1 : (f0.toList == y0.toList) = true := beq_iff_eq.2 hne
                                  go_wp2_with fail
                                  go_ret
                                  exact ⟨false, rfl, (fun h => by cases h), below_step HBX.out HBI2.out⟩
                                · have e1 : (f0.toList == y0.toList) = false := beq_eq_false_iff_ne.2 hne
                                  have HNE := Lib.hid hne
                                  clear hne
                                  go_wp2_with fail
                                  refine ⟨⟨j + 1, by go_num, ⟨by omega⟩, ⟨fun i z hi hz h1 h2 => ?_⟩, HBI2⟩, ?_⟩
                                  · rcases Nat.lt_or_ge i j with h3 | h3
                                    · exact HA.out i z h3 hz (by first | rfl | exact h1) h2
                                    · have h4 : i = j := by omega
                                      subst h4
                                      have h5 := EY.out; rw [hz] at h5; cases h5
                                      exact HNE.out
                                  · simp [intOf]; omega
                            · have d1 : decide ((j : Int) < (k : Int)) = false := decide_eq_false (by omega)
                              go_wp2_with fail
                              refine ⟨⟨k + 1, by go_num, ⟨by omega⟩, ⟨HG.out.step EX.out hg16 HKIND.out (fun i y hi hy h1 h2 => HA.out i y (by omega) hy h1 h2)⟩, ⟨xi⟩, ⟨below_step HBX.out HBI.out⟩⟩, ?_⟩
                              simp [intOf]; omega
                  | false =>
                    cases f1 with
                    | true =>
                      go_wp2_with fail
                      refine (name_says f0 _ hx31').mono ?_
                      rintro e w2 ⟨bn, rfl, hbn, rfl⟩
                      have HBN := Lib.hid hbn
                      clear hbn
                      cases bn with
                      | false =>
                        go_wp2_with fail
                        go_ret
                        exact ⟨false, rfl, (fun h => by cases h), HBX.out⟩
                      | true =>
                        have hg16 : f0.size ≤ 16 := by omega
                        have HKIND := Lib.hid (show Kind (⟨f0, true, false⟩ : S42) (k + 1 = l.length) from .wild (HBN.out (by first | rfl | trivial)) rfl rfl)
                        go_wp2_with fail
                        go_loopw [119] (fun v wr => ∃ j : Nat, v = .int .i64 j ∧ Aside0 (j ≤ k) ∧ Aside0 (∀ (i : Nat) (y : S42), i < j → l[i]? = some y → true = true → y.f1 = true → f0.toList ≠ y.f0.toList) ∧ Aside0 (Below (wo.alloc (.cells #[.string f0, .bool true, .bool false] 42)).heap.size (wo.alloc (.cells #[.string f0, .bool true, .bool false] 42)) wr)) (fun v _ => k - (intOf v).toNat)
                        case atStart => exact ⟨0, rfl, ⟨Nat.zero_le _⟩, ⟨fun i y hi => absurd hi (by omega)⟩, ⟨Below.refl _ _⟩⟩
                        case round =>
                          obtain ⟨j, rfl, HJ, HA, HBI⟩ := hrel
                          have bi := blk_below HBK.out HBI.out
                          have i0 : wr.cell? ⟨wo.heap.size, 0, none⟩ = some (.string f0) := (blk_cell bi 0).trans rfl
                          have i1 : wr.cell? ⟨wo.heap.size, 1, none⟩ = some (.bool true) := (blk_cell bi 1).trans rfl
                          have xi := pw_cell_below HBI.out x0'
                          by_cases hjk : j < k
                          · have d1 : decide ((j : Int) < (k : Int)) = true := decide_eq_true (by omega)
                            have hn := HN.out
                            obtain ⟨ad3, y, eA3, ey, q0, q1, q2⟩ := at42n (Kd.C_below HC.out (below_step HBX.out HBI.out)) j (by omega)
                            have ead : ad3 = ad := (Option.some.inj eA3).symm
                            subst ead
                            have EY := Lib.hid ey
                            clear hn ey eA3 bi
                            have j0 : (0 : Int) ≤ (j : Int) := by omega
                            have j1 : (j : Int) < (k : Int) := by omega
                            have j2 : (j : Int) < (n : Int) := by omega
                            have HBI2 := Aside0.mk (below_alloc HBI.out (.cells #[.string y.f0, .bool y.f1, .bool y.f2] 42))
                            obtain ⟨y0, y1, y2⟩ := y
                            have i2 : (wr.alloc (.cells #[.string y0, .bool y1, .bool y2] 42)).cell? ⟨wo.heap.size, 0, none⟩ = some (.string f0) := pw_cell_below (below_alloc (Below.refl _ _) _) i0
                            have i3 : (wr.alloc (.cells #[.string y0, .bool y1, .bool y2] 42)).cell? ⟨wo.heap.size, 1, none⟩ = some (.bool true) := pw_cell_below (below_alloc (Below.refl _ _) _) i1
                            cases y1 with
                            | false =>
                              go_wp2_with fail
                              refine ⟨⟨j + 1, by go_num, ⟨by omega⟩, ⟨fun i z hi hz h1 h2 => ?_⟩, HBI2⟩, ?_⟩
                              · rcases Nat.lt_or_ge i j with h3 | h3
                                · exact HA.out i z h3 hz (by first | rfl | exact h1) h2
                                · have h4 : i = j := by omega
                                  subst h4
                                  have h5 := EY.out; rw [hz] at h5; cases h5
                                  cases h2
                              · simp [intOf]; omega
                            | true =>
                              by_cases hne : f0.toList = y0.toList
                              · have e1 : (f0.toList == y0.toList) = true := beq_iff_eq.2 hne
                                go_wp2_with fail
                                go_ret
                                exact ⟨false, rfl, (fun h => by cases h), below_step HBX.out HBI2.out⟩
                              · have e1 : (f0.toList == y0.toList) = false := beq_eq_false_iff_ne.2 hne
                                have HNE := Lib.hid hne
                                clear hne
                                go_wp2_with fail
                                refine ⟨⟨j + 1, by go_num, ⟨by omega⟩, ⟨fun i z hi hz h1 h2 => ?_⟩, HBI2⟩, ?_⟩
                                · rcases Nat.lt_or_ge i j with h3 | h3
                                  · exact HA.out i z h3 hz (by first | rfl | exact h1) h2
                                  · have h4 : i = j := by omega
                                    subst h4
                                    have h5 := EY.out; rw [hz] at h5; cases h5
                                    exact HNE.out
                                · simp [intOf]; omega
                          · have d1 : decide ((j : Int) < (k : Int)) = false := decide_eq_false (by omega)
                            go_wp2_with fail
                            refine ⟨⟨k + 1, by go_num, ⟨by omega⟩, ⟨HG.out.step EX.out hg16 HKIND.out (fun i y hi hy h1 h2 => HA.out i y (by omega) hy h1 h2)⟩, ⟨xi⟩, ⟨below_step HBX.out HBI.out⟩⟩, ?_⟩
                            simp [intOf]; omega
                    | false =>
                      by_cases he : f0.data.toList = [47]
                      · have n0 := isSlash_yes he
                        have hg16 : f0.size ≤ 16 := by omega
                        have HKIND := Lib.hid (show Kind (⟨f0, false, false⟩ : S42) (k + 1 = l.length) from .stop he rfl rfl (by rw [HLL.out]; trivial))
                        go_wp2_with fail
                        go_loopw [119] (fun v wr => ∃ j : Nat, v = .int .i64 j ∧ Aside0 (j ≤ k) ∧ Aside0 (∀ (i : Nat) (y : S42), i < j → l[i]? = some y → false = true → y.f1 = true → f0.toList ≠ y.f0.toList) ∧ Aside0 (Below (wo.alloc (.cells #[.string f0, .bool false, .bool false] 42)).heap.size (wo.alloc (.cells #[.string f0, .bool false, .bool false] 42)) wr)) (fun v _ => k - (intOf v).toNat)
                        case atStart => exact ⟨0, rfl, ⟨Nat.zero_le _⟩, ⟨fun i y hi => absurd hi (by omega)⟩, ⟨Below.refl _ _⟩⟩
                        case round =>
                          obtain ⟨j, rfl, HJ, HA, HBI⟩ := hrel
                          have bi := blk_below HBK.out HBI.out
                          have i0 : wr.cell? ⟨wo.heap.size, 0, none⟩ = some (.string f0) := (blk_cell bi 0).trans rfl
                          have i1 : wr.cell? ⟨wo.heap.size, 1, none⟩ = some (.bool false) := (blk_cell bi 1).trans rfl
                          have xi := pw_cell_below HBI.out x0'
                          by_cases hjk : j < k
                          · have d1 : decide ((j : Int) < (k : Int)) = true := decide_eq_true (by omega)
                            have hn := HN.out
                            obtain ⟨ad3, y, eA3, ey, q0, q1, q2⟩ := at42n (Kd.C_below HC.out (below_step HBX.out HBI.out)) j (by omega)
                            have ead : ad3 = ad := (Option.some.inj eA3).symm
                            subst ead
                            have EY := Lib.hid ey
                            clear hn ey eA3 bi
                            have j0 : (0 : Int) ≤ (j : Int) := by omega
                            have j1 : (j : Int) < (k : Int) := by omega
                            have j2 : (j : Int) < (n : Int) := by omega
                            have HBI2 := Aside0.mk (below_alloc HBI.out (.cells #[.string y.f0, .bool y.f1, .bool y.f2] 42))
                            obtain ⟨y0, y1, y2⟩ := y
                            have i2 : (wr.alloc (.cells #[.string y0, .bool y1, .bool y2] 42)).cell? ⟨wo.heap.size, 0, none⟩ = some (.string f0) := pw_cell_below (below_alloc (Below.refl _ _) _) i0
                            have i3 : (wr.alloc (.cells #[.string y0, .bool y1, .bool y2] 42)).cell? ⟨wo.heap.size, 1, none⟩ = some (.bool false) := pw_cell_below (below_alloc (Below.refl _ _) _) i1
                            go_wp2_with fail
                            refine ⟨⟨j + 1, by go_num, ⟨by omega⟩, ⟨fun i z hi hz h1 h2 => by cases h1⟩, HBI2⟩, ?_⟩
                            simp [intOf]; omega
                          · have d1 : decide ((j : Int) < (k : Int)) = false := decide_eq_false (by omega)
                            go_wp2_with fail
                            refine ⟨⟨k + 1, by go_num, ⟨by omega⟩, ⟨HG.out.step EX.out hg16 HKIND.out (fun i y hi hy h1 h2 => HA.out i y (by omega) hy h1 h2)⟩, ⟨xi⟩, ⟨below_step HBX.out HBI.out⟩⟩, ?_⟩
                            simp [intOf]; omega
                      · have n0 := isSlash_no he
                        have HE := Lib.hid he
                        clear he
                        go_wp2_with fail
                        refine (literal_says f0 _ hx31').mono ?_
                        rintro e w2 ⟨bn, rfl, hbn, rfl⟩
                        have HBN := Lib.hid hbn
                        clear hbn
                        cases bn with
                        | false =>
                          go_wp2_with fail
                          go_ret
                          exact ⟨false, rfl, (fun h => by cases h), HBX.out⟩
                        | true =>
                          have hg16 : f0.size ≤ 16 := by omega
                          have HKIND := Lib.hid (show Kind (⟨f0, false, false⟩ : S42) (k + 1 = l.length) from .lit (HBN.out (by first | rfl | trivial)) rfl rfl)
                          go_wp2_with fail
                          go_loopw [119] (fun v wr => ∃ j : Nat, v = .int .i64 j ∧ Aside0 (j ≤ k) ∧ Aside0 (∀ (i : Nat) (y : S42), i < j → l[i]? = some y → false = true → y.f1 = true → f0.toList ≠ y.f0.toList) ∧ Aside0 (Below (wo.alloc (.cells #[.string f0, .bool false, .bool false] 42)).heap.size (wo.alloc (.cells #[.string f0, .bool false, .bool false] 42)) wr)) (fun v _ => k - (intOf v).toNat)
                          case atStart => exact ⟨0, rfl, ⟨Nat.zero_le _⟩, ⟨fun i y hi => absurd hi (by omega)⟩, ⟨Below.refl _ _⟩⟩
                          case round =>
                            obtain ⟨j, rfl, HJ, HA, HBI⟩ := hrel
                            have bi := blk_below HBK.out HBI.out
                            have i0 : wr.cell? ⟨wo.heap.size, 0, none⟩ = some (.string f0) := (blk_cell bi 0).trans rfl
                            have i1 : wr.cell? ⟨wo.heap.size, 1, none⟩ = some (.bool false) := (blk_cell bi 1).trans rfl
                            have xi := pw_cell_below HBI.out x0'
                            by_cases hjk : j < k
                            · have d1 : decide ((j : Int) < (k : Int)) = true := decide_eq_true (by omega)
                              have hn := HN.out
                              obtain ⟨ad3, y, eA3, ey, q0, q1, q2⟩ := at42n (Kd.C_below HC.out (below_step HBX.out HBI.out)) j (by omega)
                              have ead : ad3 = ad := (Option.some.inj eA3).symm
                              subst ead
                              have EY := Lib.hid ey
                              clear hn ey eA3 bi
                              have j0 : (0 : Int) ≤ (j : Int) := by omega
                              have j1 : (j : Int) < (k : Int) := by omega
                              have j2 : (j : Int) < (n : Int) := by omega
                              have HBI2 := Aside0.mk (below_alloc HBI.out (.cells #[.string y.f0, .bool y.f1, .bool y.f2] 42))
                              obtain ⟨y0, y1, y2⟩ := y
                              have i2 : (wr.alloc (.cells #[.string y0, .bool y1, .bool y2] 42)).cell? ⟨wo.heap.size, 0, none⟩ = some (.string f0) := pw_cell_below (below_alloc (Below.refl _ _) _) i0
                              have i3 : (wr.alloc (.cells #[.string y0, .bool y1, .bool y2] 42)).cell? ⟨wo.heap.size, 1, none⟩ = some (.bool false) := pw_cell_below (below_alloc (Below.refl _ _) _) i1
                              go_wp2_with fail
                              refine ⟨⟨j + 1, by go_num, ⟨by omega⟩, ⟨fun i z hi hz h1 h2 => by cases h1⟩, HBI2⟩, ?_⟩
                              simp [intOf]; omega
                            · have d1 : decide ((j : Int) < (k : Int)) = false := decide_eq_false (by omega)
                              go_wp2_with fail
                              refine ⟨⟨k + 1, by go_num, ⟨by omega⟩, ⟨HG.out.step EX.out hg16 HKIND.out (fun i y hi hy h1 h2 => HA.out i y (by omega) hy h1 h2)⟩, ⟨xi⟩, ⟨below_step HBX.out HBI.out⟩⟩, ?_⟩
                              simp [intOf]; omega
                · have el : ((k : Int) == (n : Int) - 1) = false := beq_eq_false_iff_ne.2 (by omega)
                  have hll : (k + 1 = l.length) = False := by rw [← HN.out]; simp [hlast]
                  have HLL := Lib.hid hll
                  clear hll
                  cases f2 with
                  | true =>
                    cases f1 with
                    | false =>
                      go_wp2_with fail
                      go_ret
                      exact ⟨false, rfl, (fun h => by cases h), HBX.out⟩
                    | true =>
                      go_wp2_with fail
                      go_ret
                      exact ⟨false, rfl, (fun h => by cases h), HBX.out⟩
                  | false =>
                    cases f1 with
                    | true =>
                      go_wp2_with fail
                      refine (name_says f0 _ hx31').mono ?_
                      rintro e w2 ⟨bn, rfl, hbn, rfl⟩
                      have HBN := Lib.hid hbn
                      clear hbn
                      cases bn with
                      | false =>
                        go_wp2_with fail
                        go_ret
                        exact ⟨false, rfl, (fun h => by cases h), HBX.out⟩
                      | true =>
                        have hg16 : f0.size ≤ 16 := by omega
                        have HKIND := Lib.hid (show Kind (⟨f0, true, false⟩ : S42) (k + 1 = l.length) from .wild (HBN.out (by first | rfl | trivial)) rfl rfl)
                        go_wp2_with fail
                        go_loopw [119] (fun v wr => ∃ j : Nat, v = .int .i64 j ∧ Aside0 (j ≤ k) ∧ Aside0 (∀ (i : Nat) (y : S42), i < j → l[i]? = some y → true = true → y.f1 = true → f0.toList ≠ y.f0.toList) ∧ Aside0 (Below (wo.alloc (.cells #[.string f0, .bool true, .bool false] 42)).heap.size (wo.alloc (.cells #[.string f0, .bool true, .bool false] 42)) wr)) (fun v _ => k - (intOf v).toNat)
                        case atStart => exact ⟨0, rfl, ⟨Nat.zero_le _⟩, ⟨fun i y hi => absurd hi (by omega)⟩, ⟨Below.refl _ _⟩⟩
                        case round =>
                          obtain ⟨j, rfl, HJ, HA, HBI⟩ := hrel
                          have bi := blk_below HBK.out HBI.out
                          have i0 : wr.cell? ⟨wo.heap.size, 0, none⟩ = some (.string f0) := (blk_cell bi 0).trans rfl
                          have i1 : wr.cell? ⟨wo.heap.size, 1, none⟩ = some (.bool true) := (blk_cell bi 1).trans rfl
                          have xi := pw_cell_below HBI.out x0'
                          by_cases hjk : j < k
                          · have d1 : decide ((j : Int) < (k : Int)) = true := decide_eq_true (by omega)
                            have hn := HN.out
                            obtain ⟨ad3, y, eA3, ey, q0, q1, q2⟩ := at42n (Kd.C_below HC.out (below_step HBX.out HBI.out)) j (by omega)
                            have ead : ad3 = ad := (Option.some.inj eA3).symm
                            subst ead
                            have EY := Lib.hid ey
                            clear hn ey eA3 bi
                            have j0 : (0 : Int) ≤ (j : Int) := by omega
                            have j1 : (j : Int) < (k : Int) := by omega
                            have j2 : (j : Int) < (n : Int) := by omega
                            have HBI2 := Aside0.mk (below_alloc HBI.out (.cells #[.string y.f0, .bool y.f1, .bool y.f2] 42))
                            obtain ⟨y0, y1, y2⟩ := y
                            have i2 : (wr.alloc (.cells #[.string y0, .bool y1, .bool y2] 42)).cell? ⟨wo.heap.size, 0, none⟩ = some (.string f0) := pw_cell_below (below_alloc (Below.refl _ _) _) i0
                            have i3 : (wr.alloc (.cells #[.string y0, .bool y1, .bool y2] 42)).cell? ⟨wo.heap.size, 1, none⟩ = some (.bool true) := pw_cell_below (below_alloc (Below.refl _ _) _) i1
                            cases y1 with
                            | false =>
                              go_wp2_with fail
                              refine ⟨⟨j + 1, by go_num, ⟨by omega⟩, ⟨fun i z hi hz h1 h2 => ?_⟩, HBI2⟩, ?_⟩
                              · rcases Nat.lt_or_ge i j with h3 | h3
                                · exact HA.out i z h3 hz (by first | rfl | exact h1) h2
                                · have h4 : i = j := by omega
                                  subst h4
                                  have h5 := EY.out; rw [hz] at h5; cases h5
                                  cases h2
                              · simp [intOf]; omega
                            | true =>
                              by_cases hne : f0.toList = y0.toList
                              · have e1 : (f0.toList == y0.toList) = true := beq_iff_eq.2 hne
                                go_wp2_with fail
                                go_ret
                                exact ⟨false, rfl, (fun h => by cases h), below_step HBX.out HBI2.out⟩
                              · have e1 : (f0.toList == y0.toList) = false := beq_eq_false_iff_ne.2 hne
                                have HNE := Lib.hid hne
                                clear hne
                                go_wp2_with fail
                                refine ⟨⟨j + 1, by go_num, ⟨by omega⟩, ⟨fun i z hi hz h1 h2 => ?_⟩, HBI2⟩, ?_⟩
                                · rcases Nat.lt_or_ge i j with h3 | h3
                                  · exact HA.out i z h3 hz (by first | rfl | exact h1) h2
                                  · have h4 : i = j := by omega
                                    subst h4
                                    have h5 := EY.out; rw [hz] at h5; cases h5
                                    exact HNE.out
                                · simp [intOf]; omega
                          · have d1 : decide ((j : Int) < (k : Int)) = false := decide_eq_false (by omega)
                            go_wp2_with fail
                            refine ⟨⟨k + 1, by go_num, ⟨by omega⟩, ⟨HG.out.step EX.out hg16 HKIND.out (fun i y hi hy h1 h2 => HA.out i y (by omega) hy h1 h2)⟩, ⟨xi⟩, ⟨below_step HBX.out HBI.out⟩⟩, ?_⟩
                            simp [intOf]; omega
                    | false =>
                      by_cases he : f0.data.toList = [47]
                      · have n0 := isSlash_yes he
                        go_wp2_with fail
                        go_ret
                        exact ⟨false, rfl, (fun h => by cases h), HBX.out⟩
                      · have n0 := isSlash_no he
                        have HE := Lib.hid he
                        clear he
                        go_wp2_with fail
                        refine (literal_says f0 _ hx31').mono ?_
                        rintro e w2 ⟨bn, rfl, hbn, rfl⟩
                        have HBN := Lib.hid hbn
                        clear hbn
                        cases bn with
                        | false =>
                          go_wp2_with fail
                          go_ret
                          exact ⟨false, rfl, (fun h => by cases h), HBX.out⟩
                        | true =>
                          have hg16 : f0.size ≤ 16 := by omega
                          have HKIND := Lib.hid (show Kind (⟨f0, false, false⟩ : S42) (k + 1 = l.length) from .lit (HBN.out (by first | rfl | trivial)) rfl rfl)
                          go_wp2_with fail
                          go_loopw [119] (fun v wr => ∃ j : Nat, v = .int .i64 j ∧ Aside0 (j ≤ k) ∧ Aside0 (∀ (i : Nat) (y : S42), i < j → l[i]? = some y → false = true → y.f1 = true → f0.toList ≠ y.f0.toList) ∧ Aside0 (Below (wo.alloc (.cells #[.string f0, .bool false, .bool false] 42)).heap.size (wo.alloc (.cells #[.string f0, .bool false, .bool false] 42)) wr)) (fun v _ => k - (intOf v).toNat)
                          case atStart => exact ⟨0, rfl, ⟨Nat.zero_le _⟩, ⟨fun i y hi => absurd hi (by omega)⟩, ⟨Below.refl _ _⟩⟩
                          case round =>
                            obtain ⟨j, rfl, HJ, HA, HBI⟩ := hrel
                            have bi := blk_below HBK.out HBI.out
                            have i0 : wr.cell? ⟨wo.heap.size, 0, none⟩ = some (.string f0) := (blk_cell bi 0).trans rfl
                            have i1 : wr.cell? ⟨wo.heap.size, 1, none⟩ = some (.bool false) := (blk_cell bi 1).trans rfl
                            have xi := pw_cell_below HBI.out x0'
                            by_cases hjk : j < k
                            · have d1 : decide ((j : Int) < (k : Int)) = true := decide_eq_true (by omega)
                              have hn := HN.out
                              obtain ⟨ad3, y, eA3, ey, q0, q1, q2⟩ := at42n (Kd.C_below HC.out (below_step HBX.out HBI.out)) j (by omega)
                              have ead : ad3 = ad := (Option.some.inj eA3).symm
                              subst ead
                              have EY := Lib.hid ey
                              clear hn ey eA3 bi
                              have j0 : (0 : Int) ≤ (j : Int) := by omega
                              have j1 : (j : Int) < (k : Int) := by omega
                              have j2 : (j : Int) < (n : Int) := by omega
                              have HBI2 := Aside0.mk (below_alloc HBI.out (.cells #[.string y.f0, .bool y.f1, .bool y.f2] 42))
                              obtain ⟨y0, y1, y2⟩ := y
                              have i2 : (wr.alloc (.cells #[.string y0, .bool y1, .bool y2] 42)).cell? ⟨wo.heap.size, 0, none⟩ = some (.string f0) := pw_cell_below (below_alloc (Below.refl _ _) _) i0
                              have i3 : (wr.alloc (.cells #[.string y0, .bool y1, .bool y2] 42)).cell? ⟨wo.heap.size, 1, none⟩ = some (.bool false) := pw_cell_below (below_alloc (Below.refl _ _) _) i1
                              go_wp2_with fail
                              refine ⟨⟨j + 1, by go_num, ⟨by omega⟩, ⟨fun i z hi hz h1 h2 => by cases h1⟩, HBI2⟩, ?_⟩
                              simp [intOf]; omega
                            · have d1 : decide ((j : Int) < (k : Int)) = false := decide_eq_false (by omega)
                              go_wp2_with fail
                              refine ⟨⟨k + 1, by go_num, ⟨by omega⟩, ⟨HG.out.step EX.out hg16 HKIND.out (fun i y hi hy h1 h2 => HA.out i y (by omega) hy h1 h2)⟩, ⟨xi⟩, ⟨below_step HBX.out HBI.out⟩⟩, ?_⟩
                              simp [intOf]; omega
            · have d0 : decide ((k : Int) < (n : Int)) = false := decide_eq_false (by omega)
              have hk : n ≤ k := by omega
              go_wp2_with fail
              go_ret
              have hn := HN.out
              exact ⟨true, rfl, fun _ => ⟨HBM.out (by first | rfl | trivial), HBH.out (by first | rfl | trivial), HG.out.all (by omega) (by omega) (by omega)⟩, HB.out⟩
end Go.Proofs.YtmkbkpeccddejaaDoor
