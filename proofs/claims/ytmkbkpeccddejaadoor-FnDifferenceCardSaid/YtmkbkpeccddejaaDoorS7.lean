/- The walk of the law's two: both patterns of the reference, and whether both are good. -/
import Derived.Test.YtmkbkpeccddejaaDoorS6
namespace Go.Proofs.YtmkbkpeccddejaaDoor
open Go.RowKit PFnDifference Go.Proofs.YtmkbkpeccddejaaDoorW.PrintWords Go.Proofs.YtmkbkpeccddejaaDoorW.PrintLast Go.Proofs.YtmkbkpeccddejaaDoorW.PrintMore
set_option linter.unusedVariables false
set_option linter.unusedSimpArgs false
def TwoPost (ma ha mb hb : ByteArray) (la lb : List S47) (w : World) (e : Ending) (w' : World) : Prop :=
  ∃ (va vb : Value) (b : Bool), e = .returned (.tuple #[.agg #[.string ma, .string ha, va], .agg #[.string mb, .string hb, vb], .bool b]) ∧ Kd.R k42 42 w' w.heap.size (fun _ => True) va (la.map toS) ∧ Kd.R k42 42 w' w.heap.size (fun _ => True) vb (lb.map toS) ∧
    (b = true → GoodP ma ha (la.map toS) ∧ GoodP mb hb (lb.map toS)) ∧ Below w.heap.size w w'
theorem set3 {w : World} {g t : Nat} {a b c : Value} (h : w.heap[g]? = some (.cells #[a, b, c] t (0, 0))) (x y z : Value) : (((w.setCell ⟨g, 0, none⟩ x).setCell ⟨g, 1, none⟩ y).setCell ⟨g, 2, none⟩ z).heap[g]? = some (.cells #[x, y, z] t (0, 0)) :=
  blk_put (blk_put (blk_put h 0 x rfl) 1 y rfl) 2 z rfl
theorem set3_far {w : World} {g g' t : Nat} {cs : Array Value} (h : w.heap[g']? = some (.cells cs t (0, 0))) (hne : g' ≠ g) (x y z : Value) : (((w.setCell ⟨g, 0, none⟩ x).setCell ⟨g, 1, none⟩ y).setCell ⟨g, 2, none⟩ z).heap[g']? = some (.cells cs t (0, 0)) :=
  blk_far (blk_far (blk_far h hne x) hne y) hne z
theorem set3_row {w : World} {g base : Nat} {a b c v : Value} {xs : List S42} (hr : Kd.R k42 42 w base (fun _ => True) v xs) (h : w.heap[g]? = some (.cells #[a, b, c] 28 (0, 0))) (x y z : Value) : Kd.R k42 42 (((w.setCell ⟨g, 0, none⟩ x).setCell ⟨g, 1, none⟩ y).setCell ⟨g, 2, none⟩ z) base (fun _ => True) v xs :=
  Kd.R_set (Kd.R_set (Kd.R_set hr h (by decide) 0 x) (blk_put h 0 x rfl) (by decide) 1 y) (blk_put (blk_put h 0 x rfl) 1 y rfl) (by decide) 2 z
theorem set3_below {u w : World} {g : Nat} (h : Below u.heap.size u w) (hg : u.heap.size ≤ g) (x y z : Value) : Below u.heap.size u (((w.setCell ⟨g, 0, none⟩ x).setCell ⟨g, 1, none⟩ y).setCell ⟨g, 2, none⟩ z) :=
  below_set (below_set (below_set h hg) hg) hg
set_option maxHeartbeats 8000000 in
set_option maxRecDepth 100000 in
theorem two_calls (ma ha mb hb : ByteArray) (A B : Option Addr) (ca cb : Nat) (la lb : List S47) (w : World) (hsa : Sized ma ha la) (hsb : Sized mb hb lb)
    (hCa : Kd.C k47 w A la.length la) (hca : la.length ≤ ca) (hCb : Kd.C k47 w B lb.length lb) (hcb : lb.length ≤ cb) :
    Calls Tryd.prog 5 #[.agg #[.string ma, .string ha, .slice A la.length ca], .agg #[.string mb, .string hb, .slice B lb.length cb]] w (TwoPost ma ha mb hb la lb w) := by
  have HSA := Lib.hid hsa; have HSB := Lib.hid hsb; have HCA := Lib.hid hCa; have HCB := Lib.hid hCb
  obtain ⟨na, hna⟩ : ∃ n, n = la.length := ⟨_, rfl⟩
  obtain ⟨nb, hnb⟩ : ∃ n, n = lb.length := ⟨_, rfl⟩
  rw [← hna] at hca ⊢
  rw [← hnb] at hcb ⊢
  have HNA := Lib.hid hna; have HNB := Lib.hid hnb
  clear hsa hsb hCa hCb hna hnb
  have hconvA : ∀ W, Below w.heap.size w W → Calls Tryd.prog 11 #[.agg #[.string ma, .string ha, .slice A na ca]] W fun e w' => ∃ v : Value, e = .returned (.agg #[.string ma, .string ha, v]) ∧ Kd.R k42 42 w' W.heap.size (fun _ => True) v (la.map toS) ∧ Below W.heap.size W w' := fun W hW => by
    obtain rfl := HNA.out
    exact conv_calls ma ha A ca la W HSA.out.segs (Kd.C_below HCA.out hW) hca
  have hconvB : ∀ W, Below w.heap.size w W → Calls Tryd.prog 11 #[.agg #[.string mb, .string hb, .slice B nb cb]] W fun e w' => ∃ v : Value, e = .returned (.agg #[.string mb, .string hb, v]) ∧ Kd.R k42 42 w' W.heap.size (fun _ => True) v (lb.map toS) ∧ Below W.heap.size W w' := fun W hW => by
    obtain rfl := HNB.out
    exact conv_calls mb hb B cb lb W HSB.out.segs (Kd.C_below HCB.out hW) hcb
  have HA := Lib.hid hconvA; have HBB := Lib.hid hconvB
  clear hconvA hconvB
  go_enter Tryd.func5, Tryd.ntmps5
  go_wp2_with fail
  have hex : ∃ (w0 : World) (g2 g3 g4 g5 : Nat), w0 = ((((w.alloc (.cells #[.string ma, .string ha, .slice A na ca] 24)).alloc (.cells #[.string mb, .string hb, .slice B nb cb] 24)).alloc (.cells #[.string ⟨#[]⟩, .string ⟨#[]⟩, .slice none 0 0] 28)).alloc (.cells #[.string ⟨#[]⟩, .string ⟨#[]⟩, .slice none 0 0] 28)) ∧ g2 = w.heap.size ∧ g3 = w.heap.size + 1 ∧ g4 = w.heap.size + 1 + 1 ∧ g5 = w.heap.size + 1 + 1 + 1 := ⟨_, _, _, _, _, rfl, rfl, rfl, rfl, rfl⟩
  obtain ⟨w0, g2, g3, g4, g5, hw0, h2, h3, h4, h5⟩ := hex
  rw [← hw0, ← h5, ← h4, ← h3, ← h2]
  have hb0 : Below w.heap.size w w0 := by rw [hw0]; exact below_alloc (below_alloc (below_alloc (below_alloc (Below.refl _ _) _) _) _) _
  have x2 : w0.heap[g2]? = some (.cells #[.string ma, .string ha, .slice A na ca] 24 (0, 0)) := by rw [hw0, h2]; exact blk_alloc (blk_alloc (blk_alloc (blk_new w _) _) _) _
  have x3 : w0.heap[g3]? = some (.cells #[.string mb, .string hb, .slice B nb cb] 24 (0, 0)) := by
    have := blk_new (w.alloc (.cells #[.string ma, .string ha, .slice A na ca] 24)) (.cells #[.string mb, .string hb, .slice B nb cb] 24)
    rw [hw0, h3]; refine blk_alloc (blk_alloc ?_ _) _; simpa using this
  have x4 : w0.heap[g4]? = some (.cells #[.string ⟨#[]⟩, .string ⟨#[]⟩, .slice none 0 0] 28 (0, 0)) := by
    have := blk_new ((w.alloc (.cells #[.string ma, .string ha, .slice A na ca] 24)).alloc (.cells #[.string mb, .string hb, .slice B nb cb] 24)) (.cells #[.string ⟨#[]⟩, .string ⟨#[]⟩, .slice none 0 0] 28)
    rw [hw0, h4]; refine blk_alloc ?_ _; simpa using this
  have x5 : w0.heap[g5]? = some (.cells #[.string ⟨#[]⟩, .string ⟨#[]⟩, .slice none 0 0] 28 (0, 0)) := by
    have := blk_new (((w.alloc (.cells #[.string ma, .string ha, .slice A na ca] 24)).alloc (.cells #[.string mb, .string hb, .slice B nb cb] 24)).alloc (.cells #[.string ⟨#[]⟩, .string ⟨#[]⟩, .slice none 0 0] 28)) (.cells #[.string ⟨#[]⟩, .string ⟨#[]⟩, .slice none 0 0] 28)
    rw [hw0, h5]; simpa using this
  have n4 : w.heap.size ≤ g4 := by omega
  have n5 : w.heap.size ≤ g5 := by omega
  have n45 : g4 ≠ g5 := by omega
  clear hw0 h2 h3 h4 h5
  have X2_0 := Aside0.mk (blk_drew x2); have X3_0 := Aside0.mk (blk_drew x3); have X4_0 := Aside0.mk (blk_drew x4); have X5_0 := Aside0.mk (blk_drew x5); have HB_0 := Aside0.mk (below_drew hb0)
  clear x2 x3 x4 x5 hb0
  refine start_ (n := 8) (S := fun w' => w'.cell? ⟨g2, 0, none⟩ = some (.string ma) ∧ w'.cell? ⟨g2, 1, none⟩ = some (.string ha) ∧ w'.cell? ⟨g2, 2, none⟩ = some (.slice A na ca) ∧ w'.cell? ⟨g3, 0, none⟩ = some (.string mb) ∧ w'.cell? ⟨g3, 1, none⟩ = some (.string hb) ∧ w'.cell? ⟨g3, 2, none⟩ = some (.slice B nb cb)) (ds := []) #[false, false, false, false, false, false, false, false] (by kernel_rfl) rfl rfl ⟨(blk_cell X2_0.out 0).trans rfl, (blk_cell X2_0.out 1).trans rfl, (blk_cell X2_0.out 2).trans rfl, (blk_cell X3_0.out 0).trans rfl, (blk_cell X3_0.out 1).trans rfl, (blk_cell X3_0.out 2).trans rfl⟩ (fun hHeld => ?_)
  generalize w0.drew = w1 at X2_0 X3_0 X4_0 X5_0 HB_0 hHeld ⊢
  refine take_ (i := 0) (N := some 9) (v := ?_) (a' := ?_) #[true, false, false, false, false, false, false, false] rfl rfl (by kernel_rfl) (fun _ _ _ h => h) (Or.inl ⟨by rfl, ?_⟩) hHeld ?_ ?_
  rotate_left
  · rintro w' ⟨s0, s1, s2, s3, s4, s5⟩
    go_simp
    with_reducible rfl
  rotate_left
  · simp only [Act.put, List.setIfInBounds_toArray, List.set_cons_zero, List.set_cons_succ, i64_w, i32_w]
    rfl
  refine take_ (i := 2) (N := some 11) (v := ?_) (a' := ?_) #[true, false, true, false, false, false, false, false] rfl rfl (by kernel_rfl) (fun _ _ _ h => h) (Or.inl ⟨by rfl, ?_⟩) hHeld ?_ ?_
  rotate_left
  · rintro w' ⟨s0, s1, s2, s3, s4, s5⟩
    go_simp
    with_reducible rfl
  rotate_left
  · simp only [Act.put, List.setIfInBounds_toArray, List.set_cons_zero, List.set_cons_succ, i64_w, i32_w]
    rfl
  refine join_ (σ := Value × Value × Nat × Nat) 2 #[true, true, true, true, true, true, false, false] (fun s => [(10, .agg #[.string ma, .string ha, s.1]), (12, .agg #[.string mb, .string hb, s.2.1]), (7, .pointer (some ⟨s.2.2.1, 0, none⟩)), (8, .pointer (some ⟨s.2.2.2, 0, none⟩))]) (fun s w' => Kd.R k42 42 w' w.heap.size (fun _ => True) s.1 (la.map toS) ∧ Kd.R k42 42 w' w.heap.size (fun _ => True) s.2.1 (lb.map toS) ∧ w'.heap[s.2.2.1]? = some (.cells #[.string ⟨#[]⟩, .string ⟨#[]⟩, .slice none 0 0] 28 (0, 0)) ∧ w'.heap[s.2.2.2]? = some (.cells #[.string ⟨#[]⟩, .string ⟨#[]⟩, .slice none 0 0] 28 (0, 0)) ∧ w'.heap[g4]? = some (.cells #[.string ⟨#[]⟩, .string ⟨#[]⟩, .slice none 0 0] 28 (0, 0)) ∧ w'.heap[g5]? = some (.cells #[.string ⟨#[]⟩, .string ⟨#[]⟩, .slice none 0 0] 28 (0, 0)) ∧ Below w.heap.size w w' ∧ w.heap.size ≤ s.2.2.1 ∧ w.heap.size ≤ s.2.2.2 ∧ s.2.2.1 ≠ g4 ∧ s.2.2.1 ≠ g5 ∧ s.2.2.2 ≠ g4 ∧ s.2.2.2 ≠ g5 ∧ s.2.2.1 ≠ s.2.2.2 ∧ w'.heap[g2]? = some (.cells #[.string ma, .string ha, .slice A na ca] 24 (0, 0)) ∧ w'.heap[g3]? = some (.cells #[.string mb, .string hb, .slice B nb cb] 24 (0, 0))) ?_ ?_
  rotate_left
  · intro hcont
    refine three_ (i := 1) (j := 4) (k := 5) (Ni := some 10) (Nj := some 7) (Nk := some 8) #[true, true, true, false, false, false, false, false] #[true, false, true, false, true, false, false, false] #[true, false, true, false, false, true, false, false] rfl rfl rfl rfl rfl rfl (by kernel_rfl) (by decide) (by decide) (by decide) (fun K hK => ?_) (fun K hK => ?_) (fun K hK => ?_)
    · refine goes_ Tryd.func11 (by kernel_rfl) rfl #[.agg #[.string ma, .string ha, .slice A na ca]] (by rfl) rfl rfl (by simp only [List.map_toArray, List.map_cons, List.map_nil]; rfl) ?_
      refine (HA.out _ HB_0.out).mono ?_
      rintro e w1 ⟨va, rfl, hr, hb⟩
      refine ⟨_, rfl, ?_⟩
      have Rva_1 := Aside0.mk (Kd.R_lower hr (below_size HB_0.out))
      have X2_1 := Aside0.mk (blk_below X2_0.out hb)
      have X3_1 := Aside0.mk (blk_below X3_0.out hb)
      have X4_1 := Aside0.mk (blk_below X4_0.out hb)
      have X5_1 := Aside0.mk (blk_below X5_0.out hb)
      have HB_1 := Aside0.mk (below_step HB_0.out hb)
      clear hb hr X2_0 X3_0 X4_0 X5_0 HB_0
      refine hK.out _ _ ⟨(blk_cell X2_1.out 0).trans rfl, (blk_cell X2_1.out 1).trans rfl, (blk_cell X2_1.out 2).trans rfl, (blk_cell X3_1.out 0).trans rfl, (blk_cell X3_1.out 1).trans rfl, (blk_cell X3_1.out 2).trans rfl⟩ (fun hHeld => ?_)
      clear hK K
      refine norm_ (a' := ?_) ?_ ?_
      rotate_left
      · show Act.put _ (some 10) _ = _
        simp only [Act.put, List.setIfInBounds_toArray, List.set_cons_zero, List.set_cons_succ, i64_w, i32_w]
        rfl
      refine three_ (i := 3) (j := 4) (k := 5) (Ni := some 12) (Nj := some 7) (Nk := some 8) #[true, true, true, true, false, false, false, false] #[true, true, true, false, true, false, false, false] #[true, true, true, false, false, true, false, false] rfl rfl rfl rfl rfl rfl (by kernel_rfl) (by decide) (by decide) (by decide) (fun K hK => ?_) (fun K hK => ?_) (fun K hK => ?_)
      · refine goes_ Tryd.func11 (by kernel_rfl) rfl #[.agg #[.string mb, .string hb, .slice B nb cb]] (by rfl) rfl rfl (by simp only [List.map_toArray, List.map_cons, List.map_nil]; rfl) ?_
        refine (HBB.out _ HB_1.out).mono ?_
        rintro e w2 ⟨vb, rfl, hr, hb⟩
        refine ⟨_, rfl, ?_⟩
        have Rvb_2 := Aside0.mk (Kd.R_lower hr (below_size HB_1.out))
        have X2_2 := Aside0.mk (blk_below X2_1.out hb)
        have X3_2 := Aside0.mk (blk_below X3_1.out hb)
        have X4_2 := Aside0.mk (blk_below X4_1.out hb)
        have X5_2 := Aside0.mk (blk_below X5_1.out hb)
        have HB_2 := Aside0.mk (below_step HB_1.out hb)
        have Rva_2 := Aside0.mk (Kd.R_below Rva_1.out hb)
        clear hb hr X2_1 X3_1 X4_1 X5_1 HB_1 Rva_1
        refine hK.out _ _ ⟨(blk_cell X2_2.out 0).trans rfl, (blk_cell X2_2.out 1).trans rfl, (blk_cell X2_2.out 2).trans rfl, (blk_cell X3_2.out 0).trans rfl, (blk_cell X3_2.out 1).trans rfl, (blk_cell X3_2.out 2).trans rfl⟩ (fun hHeld => ?_)
        clear hK K
        refine norm_ (a' := ?_) ?_ ?_
        rotate_left
        · show Act.put _ (some 12) _ = _
          simp only [Act.put, List.setIfInBounds_toArray, List.set_cons_zero, List.set_cons_succ, i64_w, i32_w]
          rfl
        refine two_ (i := 4) (j := 5) (Ni := some 7) (Nj := some 8) #[true, true, true, true, true, false, false, false] #[true, true, true, true, false, true, false, false] rfl rfl rfl rfl (by kernel_rfl) (by decide) (by decide) (fun K hK => ?_) (fun K hK => ?_)
        · refine box_step (by rfl) (N := 7) rfl (cs := #[.string ⟨#[]⟩, .string ⟨#[]⟩, .slice none 0 0]) (t := 28) (by first | (go_simp; done) | (go_simp; rfl)) ?_
          intro g7 hg w3 hbox hb
          have Yg7_3 := Aside0.mk hbox
          have Lg7 : Aside0 (w.heap.size ≤ g7) := ⟨by rw [hg]; exact below_size HB_2.out⟩
          have N4g7 : Aside0 (g7 ≠ g4) := ⟨by rw [hg]; exact Nat.ne_of_gt (blk_lt X4_2.out)⟩
          have N5g7 : Aside0 (g7 ≠ g5) := ⟨by rw [hg]; exact Nat.ne_of_gt (blk_lt X5_2.out)⟩
          clear hg hbox
          have X2_3 := Aside0.mk (blk_below X2_2.out hb)
          have X3_3 := Aside0.mk (blk_below X3_2.out hb)
          have X4_3 := Aside0.mk (blk_below X4_2.out hb)
          have X5_3 := Aside0.mk (blk_below X5_2.out hb)
          have HB_3 := Aside0.mk (below_step HB_2.out hb)
          have Rva_3 := Aside0.mk (Kd.R_below Rva_2.out hb)
          have Rvb_3 := Aside0.mk (Kd.R_below Rvb_2.out hb)
          clear hb X2_2 X3_2 X4_2 X5_2 HB_2 Rva_2 Rvb_2
          refine hK.out _ _ ⟨(blk_cell X2_3.out 0).trans rfl, (blk_cell X2_3.out 1).trans rfl, (blk_cell X2_3.out 2).trans rfl, (blk_cell X3_3.out 0).trans rfl, (blk_cell X3_3.out 1).trans rfl, (blk_cell X3_3.out 2).trans rfl⟩ (fun hHeld => ?_)
          clear hK K
          refine norm_ (a' := ?_) ?_ ?_
          rotate_left
          · show Act.put _ (some 7) _ = _
            simp only [Act.put, List.setIfInBounds_toArray, List.set_cons_zero, List.set_cons_succ, i64_w, i32_w]
            rfl
          refine one_ (i := 5) (N := some 8) #[true, true, true, true, true, true, false, false] rfl rfl (by kernel_rfl) (by decide) (fun K hK => ?_)
          · refine box_step (by rfl) (N := 8) rfl (cs := #[.string ⟨#[]⟩, .string ⟨#[]⟩, .slice none 0 0]) (t := 28) (by first | (go_simp; done) | (go_simp; rfl)) ?_
            intro g8 hg w4 hbox hb
            have Yg8_4 := Aside0.mk hbox
            have Lg8 : Aside0 (w.heap.size ≤ g8) := ⟨by rw [hg]; exact below_size HB_3.out⟩
            have N4g8 : Aside0 (g8 ≠ g4) := ⟨by rw [hg]; exact Nat.ne_of_gt (blk_lt X4_3.out)⟩
            have N5g8 : Aside0 (g8 ≠ g5) := ⟨by rw [hg]; exact Nat.ne_of_gt (blk_lt X5_3.out)⟩
            have Ng7g8 : Aside0 (g8 ≠ g7) := ⟨by rw [hg]; exact Nat.ne_of_gt (blk_lt Yg7_3.out)⟩
            clear hg hbox
            have X2_4 := Aside0.mk (blk_below X2_3.out hb)
            have X3_4 := Aside0.mk (blk_below X3_3.out hb)
            have X4_4 := Aside0.mk (blk_below X4_3.out hb)
            have X5_4 := Aside0.mk (blk_below X5_3.out hb)
            have HB_4 := Aside0.mk (below_step HB_3.out hb)
            have Rva_4 := Aside0.mk (Kd.R_below Rva_3.out hb)
            have Rvb_4 := Aside0.mk (Kd.R_below Rvb_3.out hb)
            have Yg7_4 := Aside0.mk (blk_below Yg7_3.out hb)
            clear hb X2_3 X3_3 X4_3 X5_3 HB_3 Rva_3 Rvb_3 Yg7_3
            refine hK.out _ _ ⟨(blk_cell X2_4.out 0).trans rfl, (blk_cell X2_4.out 1).trans rfl, (blk_cell X2_4.out 2).trans rfl, (blk_cell X3_4.out 0).trans rfl, (blk_cell X3_4.out 1).trans rfl, (blk_cell X3_4.out 2).trans rfl⟩ (fun hHeld => ?_)
            clear hK K
            refine norm_ (a' := ?_) ?_ ?_
            rotate_left
            · show Act.put _ (some 8) _ = _
              simp only [Act.put, List.setIfInBounds_toArray, List.set_cons_zero, List.set_cons_succ, i64_w, i32_w]
              rfl
            have hne : g7 ≠ g8 := by first | exact Ng8g7.out | exact fun e => Ng7g8.out e.symm
            have hfin := hcont ⟨va, vb, g7, g8⟩ w4 ⟨Rva_4.out, Rvb_4.out, Yg7_4.out, Yg8_4.out, X4_4.out, X5_4.out, HB_4.out, Lg7.out, Lg8.out, N4g7.out, N5g7.out, N4g8.out, N5g8.out, hne, X2_4.out, X3_4.out⟩
            simp only [putAll, Act.put, List.setIfInBounds_toArray, List.set_cons_zero, List.set_cons_succ] at hfin
            exact hfin
        · refine box_step (by rfl) (N := 8) rfl (cs := #[.string ⟨#[]⟩, .string ⟨#[]⟩, .slice none 0 0]) (t := 28) (by first | (go_simp; done) | (go_simp; rfl)) ?_
          intro g8 hg w3 hbox hb
          have Yg8_3 := Aside0.mk hbox
          have Lg8 : Aside0 (w.heap.size ≤ g8) := ⟨by rw [hg]; exact below_size HB_2.out⟩
          have N4g8 : Aside0 (g8 ≠ g4) := ⟨by rw [hg]; exact Nat.ne_of_gt (blk_lt X4_2.out)⟩
          have N5g8 : Aside0 (g8 ≠ g5) := ⟨by rw [hg]; exact Nat.ne_of_gt (blk_lt X5_2.out)⟩
          clear hg hbox
          have X2_3 := Aside0.mk (blk_below X2_2.out hb)
          have X3_3 := Aside0.mk (blk_below X3_2.out hb)
          have X4_3 := Aside0.mk (blk_below X4_2.out hb)
          have X5_3 := Aside0.mk (blk_below X5_2.out hb)
          have HB_3 := Aside0.mk (below_step HB_2.out hb)
          have Rva_3 := Aside0.mk (Kd.R_below Rva_2.out hb)
          have Rvb_3 := Aside0.mk (Kd.R_below Rvb_2.out hb)
          clear hb X2_2 X3_2 X4_2 X5_2 HB_2 Rva_2 Rvb_2
          refine hK.out _ _ ⟨(blk_cell X2_3.out 0).trans rfl, (blk_cell X2_3.out 1).trans rfl, (blk_cell X2_3.out 2).trans rfl, (blk_cell X3_3.out 0).trans rfl, (blk_cell X3_3.out 1).trans rfl, (blk_cell X3_3.out 2).trans rfl⟩ (fun hHeld => ?_)
          clear hK K
          refine norm_ (a' := ?_) ?_ ?_
          rotate_left
          · show Act.put _ (some 8) _ = _
            simp only [Act.put, List.setIfInBounds_toArray, List.set_cons_zero, List.set_cons_succ, i64_w, i32_w]
            rfl
          refine one_ (i := 4) (N := some 7) #[true, true, true, true, true, true, false, false] rfl rfl (by kernel_rfl) (by decide) (fun K hK => ?_)
          · refine box_step (by rfl) (N := 7) rfl (cs := #[.string ⟨#[]⟩, .string ⟨#[]⟩, .slice none 0 0]) (t := 28) (by first | (go_simp; done) | (go_simp; rfl)) ?_
            intro g7 hg w4 hbox hb
            have Yg7_4 := Aside0.mk hbox
            have Lg7 : Aside0 (w.heap.size ≤ g7) := ⟨by rw [hg]; exact below_size HB_3.out⟩
            have N4g7 : Aside0 (g7 ≠ g4) := ⟨by rw [hg]; exact Nat.ne_of_gt (blk_lt X4_3.out)⟩
            have N5g7 : Aside0 (g7 ≠ g5) := ⟨by rw [hg]; exact Nat.ne_of_gt (blk_lt X5_3.out)⟩
            have Ng8g7 : Aside0 (g7 ≠ g8) := ⟨by rw [hg]; exact Nat.ne_of_gt (blk_lt Yg8_3.out)⟩
            clear hg hbox
            have X2_4 := Aside0.mk (blk_below X2_3.out hb)
            have X3_4 := Aside0.mk (blk_below X3_3.out hb)
            have X4_4 := Aside0.mk (blk_below X4_3.out hb)
            have X5_4 := Aside0.mk (blk_below X5_3.out hb)
            have HB_4 := Aside0.mk (below_step HB_3.out hb)
            have Rva_4 := Aside0.mk (Kd.R_below Rva_3.out hb)
            have Rvb_4 := Aside0.mk (Kd.R_below Rvb_3.out hb)
            have Yg8_4 := Aside0.mk (blk_below Yg8_3.out hb)
            clear hb X2_3 X3_3 X4_3 X5_3 HB_3 Rva_3 Rvb_3 Yg8_3
            refine hK.out _ _ ⟨(blk_cell X2_4.out 0).trans rfl, (blk_cell X2_4.out 1).trans rfl, (blk_cell X2_4.out 2).trans rfl, (blk_cell X3_4.out 0).trans rfl, (blk_cell X3_4.out 1).trans rfl, (blk_cell X3_4.out 2).trans rfl⟩ (fun hHeld => ?_)
            clear hK K
            refine norm_ (a' := ?_) ?_ ?_
            rotate_left
            · show Act.put _ (some 7) _ = _
              simp only [Act.put, List.setIfInBounds_toArray, List.set_cons_zero, List.set_cons_succ, i64_w, i32_w]
              rfl
            have hne : g7 ≠ g8 := by first | exact Ng8g7.out | exact fun e => Ng7g8.out e.symm
            have hfin := hcont ⟨va, vb, g7, g8⟩ w4 ⟨Rva_4.out, Rvb_4.out, Yg7_4.out, Yg8_4.out, X4_4.out, X5_4.out, HB_4.out, Lg7.out, Lg8.out, N4g7.out, N5g7.out, N4g8.out, N5g8.out, hne, X2_4.out, X3_4.out⟩
            simp only [putAll, Act.put, List.setIfInBounds_toArray, List.set_cons_zero, List.set_cons_succ] at hfin
            exact hfin
      · refine box_step (by rfl) (N := 7) rfl (cs := #[.string ⟨#[]⟩, .string ⟨#[]⟩, .slice none 0 0]) (t := 28) (by first | (go_simp; done) | (go_simp; rfl)) ?_
        intro g7 hg w2 hbox hb
        have Yg7_2 := Aside0.mk hbox
        have Lg7 : Aside0 (w.heap.size ≤ g7) := ⟨by rw [hg]; exact below_size HB_1.out⟩
        have N4g7 : Aside0 (g7 ≠ g4) := ⟨by rw [hg]; exact Nat.ne_of_gt (blk_lt X4_1.out)⟩
        have N5g7 : Aside0 (g7 ≠ g5) := ⟨by rw [hg]; exact Nat.ne_of_gt (blk_lt X5_1.out)⟩
        clear hg hbox
        have X2_2 := Aside0.mk (blk_below X2_1.out hb)
        have X3_2 := Aside0.mk (blk_below X3_1.out hb)
        have X4_2 := Aside0.mk (blk_below X4_1.out hb)
        have X5_2 := Aside0.mk (blk_below X5_1.out hb)
        have HB_2 := Aside0.mk (below_step HB_1.out hb)
        have Rva_2 := Aside0.mk (Kd.R_below Rva_1.out hb)
        clear hb X2_1 X3_1 X4_1 X5_1 HB_1 Rva_1
        refine hK.out _ _ ⟨(blk_cell X2_2.out 0).trans rfl, (blk_cell X2_2.out 1).trans rfl, (blk_cell X2_2.out 2).trans rfl, (blk_cell X3_2.out 0).trans rfl, (blk_cell X3_2.out 1).trans rfl, (blk_cell X3_2.out 2).trans rfl⟩ (fun hHeld => ?_)
        clear hK K
        refine norm_ (a' := ?_) ?_ ?_
        rotate_left
        · show Act.put _ (some 7) _ = _
          simp only [Act.put, List.setIfInBounds_toArray, List.set_cons_zero, List.set_cons_succ, i64_w, i32_w]
          rfl
        refine two_ (i := 3) (j := 5) (Ni := some 12) (Nj := some 8) #[true, true, true, true, true, false, false, false] #[true, true, true, false, true, true, false, false] rfl rfl rfl rfl (by kernel_rfl) (by decide) (by decide) (fun K hK => ?_) (fun K hK => ?_)
        · refine goes_ Tryd.func11 (by kernel_rfl) rfl #[.agg #[.string mb, .string hb, .slice B nb cb]] (by rfl) rfl rfl (by simp only [List.map_toArray, List.map_cons, List.map_nil]; rfl) ?_
          refine (HBB.out _ HB_2.out).mono ?_
          rintro e w3 ⟨vb, rfl, hr, hb⟩
          refine ⟨_, rfl, ?_⟩
          have Rvb_3 := Aside0.mk (Kd.R_lower hr (below_size HB_2.out))
          have X2_3 := Aside0.mk (blk_below X2_2.out hb)
          have X3_3 := Aside0.mk (blk_below X3_2.out hb)
          have X4_3 := Aside0.mk (blk_below X4_2.out hb)
          have X5_3 := Aside0.mk (blk_below X5_2.out hb)
          have HB_3 := Aside0.mk (below_step HB_2.out hb)
          have Rva_3 := Aside0.mk (Kd.R_below Rva_2.out hb)
          have Yg7_3 := Aside0.mk (blk_below Yg7_2.out hb)
          clear hb hr X2_2 X3_2 X4_2 X5_2 HB_2 Rva_2 Yg7_2
          refine hK.out _ _ ⟨(blk_cell X2_3.out 0).trans rfl, (blk_cell X2_3.out 1).trans rfl, (blk_cell X2_3.out 2).trans rfl, (blk_cell X3_3.out 0).trans rfl, (blk_cell X3_3.out 1).trans rfl, (blk_cell X3_3.out 2).trans rfl⟩ (fun hHeld => ?_)
          clear hK K
          refine norm_ (a' := ?_) ?_ ?_
          rotate_left
          · show Act.put _ (some 12) _ = _
            simp only [Act.put, List.setIfInBounds_toArray, List.set_cons_zero, List.set_cons_succ, i64_w, i32_w]
            rfl
          refine one_ (i := 5) (N := some 8) #[true, true, true, true, true, true, false, false] rfl rfl (by kernel_rfl) (by decide) (fun K hK => ?_)
          · refine box_step (by rfl) (N := 8) rfl (cs := #[.string ⟨#[]⟩, .string ⟨#[]⟩, .slice none 0 0]) (t := 28) (by first | (go_simp; done) | (go_simp; rfl)) ?_
            intro g8 hg w4 hbox hb
            have Yg8_4 := Aside0.mk hbox
            have Lg8 : Aside0 (w.heap.size ≤ g8) := ⟨by rw [hg]; exact below_size HB_3.out⟩
            have N4g8 : Aside0 (g8 ≠ g4) := ⟨by rw [hg]; exact Nat.ne_of_gt (blk_lt X4_3.out)⟩
            have N5g8 : Aside0 (g8 ≠ g5) := ⟨by rw [hg]; exact Nat.ne_of_gt (blk_lt X5_3.out)⟩
            have Ng7g8 : Aside0 (g8 ≠ g7) := ⟨by rw [hg]; exact Nat.ne_of_gt (blk_lt Yg7_3.out)⟩
            clear hg hbox
            have X2_4 := Aside0.mk (blk_below X2_3.out hb)
            have X3_4 := Aside0.mk (blk_below X3_3.out hb)
            have X4_4 := Aside0.mk (blk_below X4_3.out hb)
            have X5_4 := Aside0.mk (blk_below X5_3.out hb)
            have HB_4 := Aside0.mk (below_step HB_3.out hb)
            have Rva_4 := Aside0.mk (Kd.R_below Rva_3.out hb)
            have Yg7_4 := Aside0.mk (blk_below Yg7_3.out hb)
            have Rvb_4 := Aside0.mk (Kd.R_below Rvb_3.out hb)
            clear hb X2_3 X3_3 X4_3 X5_3 HB_3 Rva_3 Yg7_3 Rvb_3
            refine hK.out _ _ ⟨(blk_cell X2_4.out 0).trans rfl, (blk_cell X2_4.out 1).trans rfl, (blk_cell X2_4.out 2).trans rfl, (blk_cell X3_4.out 0).trans rfl, (blk_cell X3_4.out 1).trans rfl, (blk_cell X3_4.out 2).trans rfl⟩ (fun hHeld => ?_)
            clear hK K
            refine norm_ (a' := ?_) ?_ ?_
            rotate_left
            · show Act.put _ (some 8) _ = _
              simp only [Act.put, List.setIfInBounds_toArray, List.set_cons_zero, List.set_cons_succ, i64_w, i32_w]
              rfl
            have hne : g7 ≠ g8 := by first | exact Ng8g7.out | exact fun e => Ng7g8.out e.symm
            have hfin := hcont ⟨va, vb, g7, g8⟩ w4 ⟨Rva_4.out, Rvb_4.out, Yg7_4.out, Yg8_4.out, X4_4.out, X5_4.out, HB_4.out, Lg7.out, Lg8.out, N4g7.out, N5g7.out, N4g8.out, N5g8.out, hne, X2_4.out, X3_4.out⟩
            simp only [putAll, Act.put, List.setIfInBounds_toArray, List.set_cons_zero, List.set_cons_succ] at hfin
            exact hfin
        · refine box_step (by rfl) (N := 8) rfl (cs := #[.string ⟨#[]⟩, .string ⟨#[]⟩, .slice none 0 0]) (t := 28) (by first | (go_simp; done) | (go_simp; rfl)) ?_
          intro g8 hg w3 hbox hb
          have Yg8_3 := Aside0.mk hbox
          have Lg8 : Aside0 (w.heap.size ≤ g8) := ⟨by rw [hg]; exact below_size HB_2.out⟩
          have N4g8 : Aside0 (g8 ≠ g4) := ⟨by rw [hg]; exact Nat.ne_of_gt (blk_lt X4_2.out)⟩
          have N5g8 : Aside0 (g8 ≠ g5) := ⟨by rw [hg]; exact Nat.ne_of_gt (blk_lt X5_2.out)⟩
          have Ng7g8 : Aside0 (g8 ≠ g7) := ⟨by rw [hg]; exact Nat.ne_of_gt (blk_lt Yg7_2.out)⟩
          clear hg hbox
          have X2_3 := Aside0.mk (blk_below X2_2.out hb)
          have X3_3 := Aside0.mk (blk_below X3_2.out hb)
          have X4_3 := Aside0.mk (blk_below X4_2.out hb)
          have X5_3 := Aside0.mk (blk_below X5_2.out hb)
          have HB_3 := Aside0.mk (below_step HB_2.out hb)
          have Rva_3 := Aside0.mk (Kd.R_below Rva_2.out hb)
          have Yg7_3 := Aside0.mk (blk_below Yg7_2.out hb)
          clear hb X2_2 X3_2 X4_2 X5_2 HB_2 Rva_2 Yg7_2
          refine hK.out _ _ ⟨(blk_cell X2_3.out 0).trans rfl, (blk_cell X2_3.out 1).trans rfl, (blk_cell X2_3.out 2).trans rfl, (blk_cell X3_3.out 0).trans rfl, (blk_cell X3_3.out 1).trans rfl, (blk_cell X3_3.out 2).trans rfl⟩ (fun hHeld => ?_)
          clear hK K
          refine norm_ (a' := ?_) ?_ ?_
          rotate_left
          · show Act.put _ (some 8) _ = _
            simp only [Act.put, List.setIfInBounds_toArray, List.set_cons_zero, List.set_cons_succ, i64_w, i32_w]
            rfl
          refine one_ (i := 3) (N := some 12) #[true, true, true, true, true, true, false, false] rfl rfl (by kernel_rfl) (by decide) (fun K hK => ?_)
          · refine goes_ Tryd.func11 (by kernel_rfl) rfl #[.agg #[.string mb, .string hb, .slice B nb cb]] (by rfl) rfl rfl (by simp only [List.map_toArray, List.map_cons, List.map_nil]; rfl) ?_
            refine (HBB.out _ HB_3.out).mono ?_
            rintro e w4 ⟨vb, rfl, hr, hb⟩
            refine ⟨_, rfl, ?_⟩
            have Rvb_4 := Aside0.mk (Kd.R_lower hr (below_size HB_3.out))
            have X2_4 := Aside0.mk (blk_below X2_3.out hb)
            have X3_4 := Aside0.mk (blk_below X3_3.out hb)
            have X4_4 := Aside0.mk (blk_below X4_3.out hb)
            have X5_4 := Aside0.mk (blk_below X5_3.out hb)
            have HB_4 := Aside0.mk (below_step HB_3.out hb)
            have Rva_4 := Aside0.mk (Kd.R_below Rva_3.out hb)
            have Yg7_4 := Aside0.mk (blk_below Yg7_3.out hb)
            have Yg8_4 := Aside0.mk (blk_below Yg8_3.out hb)
            clear hb hr X2_3 X3_3 X4_3 X5_3 HB_3 Rva_3 Yg7_3 Yg8_3
            refine hK.out _ _ ⟨(blk_cell X2_4.out 0).trans rfl, (blk_cell X2_4.out 1).trans rfl, (blk_cell X2_4.out 2).trans rfl, (blk_cell X3_4.out 0).trans rfl, (blk_cell X3_4.out 1).trans rfl, (blk_cell X3_4.out 2).trans rfl⟩ (fun hHeld => ?_)
            clear hK K
            refine norm_ (a' := ?_) ?_ ?_
            rotate_left
            · show Act.put _ (some 12) _ = _
              simp only [Act.put, List.setIfInBounds_toArray, List.set_cons_zero, List.set_cons_succ, i64_w, i32_w]
              rfl
            have hne : g7 ≠ g8 := by first | exact Ng8g7.out | exact fun e => Ng7g8.out e.symm
            have hfin := hcont ⟨va, vb, g7, g8⟩ w4 ⟨Rva_4.out, Rvb_4.out, Yg7_4.out, Yg8_4.out, X4_4.out, X5_4.out, HB_4.out, Lg7.out, Lg8.out, N4g7.out, N5g7.out, N4g8.out, N5g8.out, hne, X2_4.out, X3_4.out⟩
            simp only [putAll, Act.put, List.setIfInBounds_toArray, List.set_cons_zero, List.set_cons_succ] at hfin
            exact hfin
      · refine box_step (by rfl) (N := 8) rfl (cs := #[.string ⟨#[]⟩, .string ⟨#[]⟩, .slice none 0 0]) (t := 28) (by first | (go_simp; done) | (go_simp; rfl)) ?_
        intro g8 hg w2 hbox hb
        have Yg8_2 := Aside0.mk hbox
        have Lg8 : Aside0 (w.heap.size ≤ g8) := ⟨by rw [hg]; exact below_size HB_1.out⟩
        have N4g8 : Aside0 (g8 ≠ g4) := ⟨by rw [hg]; exact Nat.ne_of_gt (blk_lt X4_1.out)⟩
        have N5g8 : Aside0 (g8 ≠ g5) := ⟨by rw [hg]; exact Nat.ne_of_gt (blk_lt X5_1.out)⟩
        clear hg hbox
        have X2_2 := Aside0.mk (blk_below X2_1.out hb)
        have X3_2 := Aside0.mk (blk_below X3_1.out hb)
        have X4_2 := Aside0.mk (blk_below X4_1.out hb)
        have X5_2 := Aside0.mk (blk_below X5_1.out hb)
        have HB_2 := Aside0.mk (below_step HB_1.out hb)
        have Rva_2 := Aside0.mk (Kd.R_below Rva_1.out hb)
        clear hb X2_1 X3_1 X4_1 X5_1 HB_1 Rva_1
        refine hK.out _ _ ⟨(blk_cell X2_2.out 0).trans rfl, (blk_cell X2_2.out 1).trans rfl, (blk_cell X2_2.out 2).trans rfl, (blk_cell X3_2.out 0).trans rfl, (blk_cell X3_2.out 1).trans rfl, (blk_cell X3_2.out 2).trans rfl⟩ (fun hHeld => ?_)
        clear hK K
        refine norm_ (a' := ?_) ?_ ?_
        rotate_left
        · show Act.put _ (some 8) _ = _
          simp only [Act.put, List.setIfInBounds_toArray, List.set_cons_zero, List.set_cons_succ, i64_w, i32_w]
          rfl
        refine two_ (i := 3) (j := 4) (Ni := some 12) (Nj := some 7) #[true, true, true, true, false, true, false, false] #[true, true, true, false, true, true, false, false] rfl rfl rfl rfl (by kernel_rfl) (by decide) (by decide) (fun K hK => ?_) (fun K hK => ?_)
        · refine goes_ Tryd.func11 (by kernel_rfl) rfl #[.agg #[.string mb, .string hb, .slice B nb cb]] (by rfl) rfl rfl (by simp only [List.map_toArray, List.map_cons, List.map_nil]; rfl) ?_
          refine (HBB.out _ HB_2.out).mono ?_
          rintro e w3 ⟨vb, rfl, hr, hb⟩
          refine ⟨_, rfl, ?_⟩
          have Rvb_3 := Aside0.mk (Kd.R_lower hr (below_size HB_2.out))
          have X2_3 := Aside0.mk (blk_below X2_2.out hb)
          have X3_3 := Aside0.mk (blk_below X3_2.out hb)
          have X4_3 := Aside0.mk (blk_below X4_2.out hb)
          have X5_3 := Aside0.mk (blk_below X5_2.out hb)
          have HB_3 := Aside0.mk (below_step HB_2.out hb)
          have Rva_3 := Aside0.mk (Kd.R_below Rva_2.out hb)
          have Yg8_3 := Aside0.mk (blk_below Yg8_2.out hb)
          clear hb hr X2_2 X3_2 X4_2 X5_2 HB_2 Rva_2 Yg8_2
          refine hK.out _ _ ⟨(blk_cell X2_3.out 0).trans rfl, (blk_cell X2_3.out 1).trans rfl, (blk_cell X2_3.out 2).trans rfl, (blk_cell X3_3.out 0).trans rfl, (blk_cell X3_3.out 1).trans rfl, (blk_cell X3_3.out 2).trans rfl⟩ (fun hHeld => ?_)
          clear hK K
          refine norm_ (a' := ?_) ?_ ?_
          rotate_left
          · show Act.put _ (some 12) _ = _
            simp only [Act.put, List.setIfInBounds_toArray, List.set_cons_zero, List.set_cons_succ, i64_w, i32_w]
            rfl
          refine one_ (i := 4) (N := some 7) #[true, true, true, true, true, true, false, false] rfl rfl (by kernel_rfl) (by decide) (fun K hK => ?_)
          · refine box_step (by rfl) (N := 7) rfl (cs := #[.string ⟨#[]⟩, .string ⟨#[]⟩, .slice none 0 0]) (t := 28) (by first | (go_simp; done) | (go_simp; rfl)) ?_
            intro g7 hg w4 hbox hb
            have Yg7_4 := Aside0.mk hbox
            have Lg7 : Aside0 (w.heap.size ≤ g7) := ⟨by rw [hg]; exact below_size HB_3.out⟩
            have N4g7 : Aside0 (g7 ≠ g4) := ⟨by rw [hg]; exact Nat.ne_of_gt (blk_lt X4_3.out)⟩
            have N5g7 : Aside0 (g7 ≠ g5) := ⟨by rw [hg]; exact Nat.ne_of_gt (blk_lt X5_3.out)⟩
            have Ng8g7 : Aside0 (g7 ≠ g8) := ⟨by rw [hg]; exact Nat.ne_of_gt (blk_lt Yg8_3.out)⟩
            clear hg hbox
            have X2_4 := Aside0.mk (blk_below X2_3.out hb)
            have X3_4 := Aside0.mk (blk_below X3_3.out hb)
            have X4_4 := Aside0.mk (blk_below X4_3.out hb)
            have X5_4 := Aside0.mk (blk_below X5_3.out hb)
            have HB_4 := Aside0.mk (below_step HB_3.out hb)
            have Rva_4 := Aside0.mk (Kd.R_below Rva_3.out hb)
            have Yg8_4 := Aside0.mk (blk_below Yg8_3.out hb)
            have Rvb_4 := Aside0.mk (Kd.R_below Rvb_3.out hb)
            clear hb X2_3 X3_3 X4_3 X5_3 HB_3 Rva_3 Yg8_3 Rvb_3
            refine hK.out _ _ ⟨(blk_cell X2_4.out 0).trans rfl, (blk_cell X2_4.out 1).trans rfl, (blk_cell X2_4.out 2).trans rfl, (blk_cell X3_4.out 0).trans rfl, (blk_cell X3_4.out 1).trans rfl, (blk_cell X3_4.out 2).trans rfl⟩ (fun hHeld => ?_)
            clear hK K
            refine norm_ (a' := ?_) ?_ ?_
            rotate_left
            · show Act.put _ (some 7) _ = _
              simp only [Act.put, List.setIfInBounds_toArray, List.set_cons_zero, List.set_cons_succ, i64_w, i32_w]
              rfl
            have hne : g7 ≠ g8 := by first | exact Ng8g7.out | exact fun e => Ng7g8.out e.symm
            have hfin := hcont ⟨va, vb, g7, g8⟩ w4 ⟨Rva_4.out, Rvb_4.out, Yg7_4.out, Yg8_4.out, X4_4.out, X5_4.out, HB_4.out, Lg7.out, Lg8.out, N4g7.out, N5g7.out, N4g8.out, N5g8.out, hne, X2_4.out, X3_4.out⟩
            simp only [putAll, Act.put, List.setIfInBounds_toArray, List.set_cons_zero, List.set_cons_succ] at hfin
            exact hfin
        · refine box_step (by rfl) (N := 7) rfl (cs := #[.string ⟨#[]⟩, .string ⟨#[]⟩, .slice none 0 0]) (t := 28) (by first | (go_simp; done) | (go_simp; rfl)) ?_
          intro g7 hg w3 hbox hb
          have Yg7_3 := Aside0.mk hbox
          have Lg7 : Aside0 (w.heap.size ≤ g7) := ⟨by rw [hg]; exact below_size HB_2.out⟩
          have N4g7 : Aside0 (g7 ≠ g4) := ⟨by rw [hg]; exact Nat.ne_of_gt (blk_lt X4_2.out)⟩
          have N5g7 : Aside0 (g7 ≠ g5) := ⟨by rw [hg]; exact Nat.ne_of_gt (blk_lt X5_2.out)⟩
          have Ng8g7 : Aside0 (g7 ≠ g8) := ⟨by rw [hg]; exact Nat.ne_of_gt (blk_lt Yg8_2.out)⟩
          clear hg hbox
          have X2_3 := Aside0.mk (blk_below X2_2.out hb)
          have X3_3 := Aside0.mk (blk_below X3_2.out hb)
          have X4_3 := Aside0.mk (blk_below X4_2.out hb)
          have X5_3 := Aside0.mk (blk_below X5_2.out hb)
          have HB_3 := Aside0.mk (below_step HB_2.out hb)
          have Rva_3 := Aside0.mk (Kd.R_below Rva_2.out hb)
          have Yg8_3 := Aside0.mk (blk_below Yg8_2.out hb)
          clear hb X2_2 X3_2 X4_2 X5_2 HB_2 Rva_2 Yg8_2
          refine hK.out _ _ ⟨(blk_cell X2_3.out 0).trans rfl, (blk_cell X2_3.out 1).trans rfl, (blk_cell X2_3.out 2).trans rfl, (blk_cell X3_3.out 0).trans rfl, (blk_cell X3_3.out 1).trans rfl, (blk_cell X3_3.out 2).trans rfl⟩ (fun hHeld => ?_)
          clear hK K
          refine norm_ (a' := ?_) ?_ ?_
          rotate_left
          · show Act.put _ (some 7) _ = _
            simp only [Act.put, List.setIfInBounds_toArray, List.set_cons_zero, List.set_cons_succ, i64_w, i32_w]
            rfl
          refine one_ (i := 3) (N := some 12) #[true, true, true, true, true, true, false, false] rfl rfl (by kernel_rfl) (by decide) (fun K hK => ?_)
          · refine goes_ Tryd.func11 (by kernel_rfl) rfl #[.agg #[.string mb, .string hb, .slice B nb cb]] (by rfl) rfl rfl (by simp only [List.map_toArray, List.map_cons, List.map_nil]; rfl) ?_
            refine (HBB.out _ HB_3.out).mono ?_
            rintro e w4 ⟨vb, rfl, hr, hb⟩
            refine ⟨_, rfl, ?_⟩
            have Rvb_4 := Aside0.mk (Kd.R_lower hr (below_size HB_3.out))
            have X2_4 := Aside0.mk (blk_below X2_3.out hb)
            have X3_4 := Aside0.mk (blk_below X3_3.out hb)
            have X4_4 := Aside0.mk (blk_below X4_3.out hb)
            have X5_4 := Aside0.mk (blk_below X5_3.out hb)
            have HB_4 := Aside0.mk (below_step HB_3.out hb)
            have Rva_4 := Aside0.mk (Kd.R_below Rva_3.out hb)
            have Yg8_4 := Aside0.mk (blk_below Yg8_3.out hb)
            have Yg7_4 := Aside0.mk (blk_below Yg7_3.out hb)
            clear hb hr X2_3 X3_3 X4_3 X5_3 HB_3 Rva_3 Yg8_3 Yg7_3
            refine hK.out _ _ ⟨(blk_cell X2_4.out 0).trans rfl, (blk_cell X2_4.out 1).trans rfl, (blk_cell X2_4.out 2).trans rfl, (blk_cell X3_4.out 0).trans rfl, (blk_cell X3_4.out 1).trans rfl, (blk_cell X3_4.out 2).trans rfl⟩ (fun hHeld => ?_)
            clear hK K
            refine norm_ (a' := ?_) ?_ ?_
            rotate_left
            · show Act.put _ (some 12) _ = _
              simp only [Act.put, List.setIfInBounds_toArray, List.set_cons_zero, List.set_cons_succ, i64_w, i32_w]
              rfl
            have hne : g7 ≠ g8 := by first | exact Ng8g7.out | exact fun e => Ng7g8.out e.symm
            have hfin := hcont ⟨va, vb, g7, g8⟩ w4 ⟨Rva_4.out, Rvb_4.out, Yg7_4.out, Yg8_4.out, X4_4.out, X5_4.out, HB_4.out, Lg7.out, Lg8.out, N4g7.out, N5g7.out, N4g8.out, N5g8.out, hne, X2_4.out, X3_4.out⟩
            simp only [putAll, Act.put, List.setIfInBounds_toArray, List.set_cons_zero, List.set_cons_succ] at hfin
            exact hfin
    · refine box_step (by rfl) (N := 7) rfl (cs := #[.string ⟨#[]⟩, .string ⟨#[]⟩, .slice none 0 0]) (t := 28) (by first | (go_simp; done) | (go_simp; rfl)) ?_
      intro g7 hg w1 hbox hb
      have Yg7_1 := Aside0.mk hbox
      have Lg7 : Aside0 (w.heap.size ≤ g7) := ⟨by rw [hg]; exact below_size HB_0.out⟩
      have N4g7 : Aside0 (g7 ≠ g4) := ⟨by rw [hg]; exact Nat.ne_of_gt (blk_lt X4_0.out)⟩
      have N5g7 : Aside0 (g7 ≠ g5) := ⟨by rw [hg]; exact Nat.ne_of_gt (blk_lt X5_0.out)⟩
      clear hg hbox
      have X2_1 := Aside0.mk (blk_below X2_0.out hb)
      have X3_1 := Aside0.mk (blk_below X3_0.out hb)
      have X4_1 := Aside0.mk (blk_below X4_0.out hb)
      have X5_1 := Aside0.mk (blk_below X5_0.out hb)
      have HB_1 := Aside0.mk (below_step HB_0.out hb)
      clear hb X2_0 X3_0 X4_0 X5_0 HB_0
      refine hK.out _ _ ⟨(blk_cell X2_1.out 0).trans rfl, (blk_cell X2_1.out 1).trans rfl, (blk_cell X2_1.out 2).trans rfl, (blk_cell X3_1.out 0).trans rfl, (blk_cell X3_1.out 1).trans rfl, (blk_cell X3_1.out 2).trans rfl⟩ (fun hHeld => ?_)
      clear hK K
      refine norm_ (a' := ?_) ?_ ?_
      rotate_left
      · show Act.put _ (some 7) _ = _
        simp only [Act.put, List.setIfInBounds_toArray, List.set_cons_zero, List.set_cons_succ, i64_w, i32_w]
        rfl
      refine two_ (i := 1) (j := 5) (Ni := some 10) (Nj := some 8) #[true, true, true, false, true, false, false, false] #[true, false, true, false, true, true, false, false] rfl rfl rfl rfl (by kernel_rfl) (by decide) (by decide) (fun K hK => ?_) (fun K hK => ?_)
      · refine goes_ Tryd.func11 (by kernel_rfl) rfl #[.agg #[.string ma, .string ha, .slice A na ca]] (by rfl) rfl rfl (by simp only [List.map_toArray, List.map_cons, List.map_nil]; rfl) ?_
        refine (HA.out _ HB_1.out).mono ?_
        rintro e w2 ⟨va, rfl, hr, hb⟩
        refine ⟨_, rfl, ?_⟩
        have Rva_2 := Aside0.mk (Kd.R_lower hr (below_size HB_1.out))
        have X2_2 := Aside0.mk (blk_below X2_1.out hb)
        have X3_2 := Aside0.mk (blk_below X3_1.out hb)
        have X4_2 := Aside0.mk (blk_below X4_1.out hb)
        have X5_2 := Aside0.mk (blk_below X5_1.out hb)
        have HB_2 := Aside0.mk (below_step HB_1.out hb)
        have Yg7_2 := Aside0.mk (blk_below Yg7_1.out hb)
        clear hb hr X2_1 X3_1 X4_1 X5_1 HB_1 Yg7_1
        refine hK.out _ _ ⟨(blk_cell X2_2.out 0).trans rfl, (blk_cell X2_2.out 1).trans rfl, (blk_cell X2_2.out 2).trans rfl, (blk_cell X3_2.out 0).trans rfl, (blk_cell X3_2.out 1).trans rfl, (blk_cell X3_2.out 2).trans rfl⟩ (fun hHeld => ?_)
        clear hK K
        refine norm_ (a' := ?_) ?_ ?_
        rotate_left
        · show Act.put _ (some 10) _ = _
          simp only [Act.put, List.setIfInBounds_toArray, List.set_cons_zero, List.set_cons_succ, i64_w, i32_w]
          rfl
        refine two_ (i := 3) (j := 5) (Ni := some 12) (Nj := some 8) #[true, true, true, true, true, false, false, false] #[true, true, true, false, true, true, false, false] rfl rfl rfl rfl (by kernel_rfl) (by decide) (by decide) (fun K hK => ?_) (fun K hK => ?_)
        · refine goes_ Tryd.func11 (by kernel_rfl) rfl #[.agg #[.string mb, .string hb, .slice B nb cb]] (by rfl) rfl rfl (by simp only [List.map_toArray, List.map_cons, List.map_nil]; rfl) ?_
          refine (HBB.out _ HB_2.out).mono ?_
          rintro e w3 ⟨vb, rfl, hr, hb⟩
          refine ⟨_, rfl, ?_⟩
          have Rvb_3 := Aside0.mk (Kd.R_lower hr (below_size HB_2.out))
          have X2_3 := Aside0.mk (blk_below X2_2.out hb)
          have X3_3 := Aside0.mk (blk_below X3_2.out hb)
          have X4_3 := Aside0.mk (blk_below X4_2.out hb)
          have X5_3 := Aside0.mk (blk_below X5_2.out hb)
          have HB_3 := Aside0.mk (below_step HB_2.out hb)
          have Yg7_3 := Aside0.mk (blk_below Yg7_2.out hb)
          have Rva_3 := Aside0.mk (Kd.R_below Rva_2.out hb)
          clear hb hr X2_2 X3_2 X4_2 X5_2 HB_2 Yg7_2 Rva_2
          refine hK.out _ _ ⟨(blk_cell X2_3.out 0).trans rfl, (blk_cell X2_3.out 1).trans rfl, (blk_cell X2_3.out 2).trans rfl, (blk_cell X3_3.out 0).trans rfl, (blk_cell X3_3.out 1).trans rfl, (blk_cell X3_3.out 2).trans rfl⟩ (fun hHeld => ?_)
          clear hK K
          refine norm_ (a' := ?_) ?_ ?_
          rotate_left
          · show Act.put _ (some 12) _ = _
            simp only [Act.put, List.setIfInBounds_toArray, List.set_cons_zero, List.set_cons_succ, i64_w, i32_w]
            rfl
          refine one_ (i := 5) (N := some 8) #[true, true, true, true, true, true, false, false] rfl rfl (by kernel_rfl) (by decide) (fun K hK => ?_)
          · refine box_step (by rfl) (N := 8) rfl (cs := #[.string ⟨#[]⟩, .string ⟨#[]⟩, .slice none 0 0]) (t := 28) (by first | (go_simp; done) | (go_simp; rfl)) ?_
            intro g8 hg w4 hbox hb
            have Yg8_4 := Aside0.mk hbox
            have Lg8 : Aside0 (w.heap.size ≤ g8) := ⟨by rw [hg]; exact below_size HB_3.out⟩
            have N4g8 : Aside0 (g8 ≠ g4) := ⟨by rw [hg]; exact Nat.ne_of_gt (blk_lt X4_3.out)⟩
            have N5g8 : Aside0 (g8 ≠ g5) := ⟨by rw [hg]; exact Nat.ne_of_gt (blk_lt X5_3.out)⟩
            have Ng7g8 : Aside0 (g8 ≠ g7) := ⟨by rw [hg]; exact Nat.ne_of_gt (blk_lt Yg7_3.out)⟩
            clear hg hbox
            have X2_4 := Aside0.mk (blk_below X2_3.out hb)
            have X3_4 := Aside0.mk (blk_below X3_3.out hb)
            have X4_4 := Aside0.mk (blk_below X4_3.out hb)
            have X5_4 := Aside0.mk (blk_below X5_3.out hb)
            have HB_4 := Aside0.mk (below_step HB_3.out hb)
            have Yg7_4 := Aside0.mk (blk_below Yg7_3.out hb)
            have Rva_4 := Aside0.mk (Kd.R_below Rva_3.out hb)
            have Rvb_4 := Aside0.mk (Kd.R_below Rvb_3.out hb)
            clear hb X2_3 X3_3 X4_3 X5_3 HB_3 Yg7_3 Rva_3 Rvb_3
            refine hK.out _ _ ⟨(blk_cell X2_4.out 0).trans rfl, (blk_cell X2_4.out 1).trans rfl, (blk_cell X2_4.out 2).trans rfl, (blk_cell X3_4.out 0).trans rfl, (blk_cell X3_4.out 1).trans rfl, (blk_cell X3_4.out 2).trans rfl⟩ (fun hHeld => ?_)
            clear hK K
            refine norm_ (a' := ?_) ?_ ?_
            rotate_left
            · show Act.put _ (some 8) _ = _
              simp only [Act.put, List.setIfInBounds_toArray, List.set_cons_zero, List.set_cons_succ, i64_w, i32_w]
              rfl
            have hne : g7 ≠ g8 := by first | exact Ng8g7.out | exact fun e => Ng7g8.out e.symm
            have hfin := hcont ⟨va, vb, g7, g8⟩ w4 ⟨Rva_4.out, Rvb_4.out, Yg7_4.out, Yg8_4.out, X4_4.out, X5_4.out, HB_4.out, Lg7.out, Lg8.out, N4g7.out, N5g7.out, N4g8.out, N5g8.out, hne, X2_4.out, X3_4.out⟩
            simp only [putAll, Act.put, List.setIfInBounds_toArray, List.set_cons_zero, List.set_cons_succ] at hfin
            exact hfin
        · refine box_step (by rfl) (N := 8) rfl (cs := #[.string ⟨#[]⟩, .string ⟨#[]⟩, .slice none 0 0]) (t := 28) (by first | (go_simp; done) | (go_simp; rfl)) ?_
          intro g8 hg w3 hbox hb
          have Yg8_3 := Aside0.mk hbox
          have Lg8 : Aside0 (w.heap.size ≤ g8) := ⟨by rw [hg]; exact below_size HB_2.out⟩
          have N4g8 : Aside0 (g8 ≠ g4) := ⟨by rw [hg]; exact Nat.ne_of_gt (blk_lt X4_2.out)⟩
          have N5g8 : Aside0 (g8 ≠ g5) := ⟨by rw [hg]; exact Nat.ne_of_gt (blk_lt X5_2.out)⟩
          have Ng7g8 : Aside0 (g8 ≠ g7) := ⟨by rw [hg]; exact Nat.ne_of_gt (blk_lt Yg7_2.out)⟩
          clear hg hbox
          have X2_3 := Aside0.mk (blk_below X2_2.out hb)
          have X3_3 := Aside0.mk (blk_below X3_2.out hb)
          have X4_3 := Aside0.mk (blk_below X4_2.out hb)
          have X5_3 := Aside0.mk (blk_below X5_2.out hb)
          have HB_3 := Aside0.mk (below_step HB_2.out hb)
          have Yg7_3 := Aside0.mk (blk_below Yg7_2.out hb)
          have Rva_3 := Aside0.mk (Kd.R_below Rva_2.out hb)
          clear hb X2_2 X3_2 X4_2 X5_2 HB_2 Yg7_2 Rva_2
          refine hK.out _ _ ⟨(blk_cell X2_3.out 0).trans rfl, (blk_cell X2_3.out 1).trans rfl, (blk_cell X2_3.out 2).trans rfl, (blk_cell X3_3.out 0).trans rfl, (blk_cell X3_3.out 1).trans rfl, (blk_cell X3_3.out 2).trans rfl⟩ (fun hHeld => ?_)
          clear hK K
          refine norm_ (a' := ?_) ?_ ?_
          rotate_left
          · show Act.put _ (some 8) _ = _
            simp only [Act.put, List.setIfInBounds_toArray, List.set_cons_zero, List.set_cons_succ, i64_w, i32_w]
            rfl
          refine one_ (i := 3) (N := some 12) #[true, true, true, true, true, true, false, false] rfl rfl (by kernel_rfl) (by decide) (fun K hK => ?_)
          · refine goes_ Tryd.func11 (by kernel_rfl) rfl #[.agg #[.string mb, .string hb, .slice B nb cb]] (by rfl) rfl rfl (by simp only [List.map_toArray, List.map_cons, List.map_nil]; rfl) ?_
            refine (HBB.out _ HB_3.out).mono ?_
            rintro e w4 ⟨vb, rfl, hr, hb⟩
            refine ⟨_, rfl, ?_⟩
            have Rvb_4 := Aside0.mk (Kd.R_lower hr (below_size HB_3.out))
            have X2_4 := Aside0.mk (blk_below X2_3.out hb)
            have X3_4 := Aside0.mk (blk_below X3_3.out hb)
            have X4_4 := Aside0.mk (blk_below X4_3.out hb)
            have X5_4 := Aside0.mk (blk_below X5_3.out hb)
            have HB_4 := Aside0.mk (below_step HB_3.out hb)
            have Yg7_4 := Aside0.mk (blk_below Yg7_3.out hb)
            have Rva_4 := Aside0.mk (Kd.R_below Rva_3.out hb)
            have Yg8_4 := Aside0.mk (blk_below Yg8_3.out hb)
            clear hb hr X2_3 X3_3 X4_3 X5_3 HB_3 Yg7_3 Rva_3 Yg8_3
            refine hK.out _ _ ⟨(blk_cell X2_4.out 0).trans rfl, (blk_cell X2_4.out 1).trans rfl, (blk_cell X2_4.out 2).trans rfl, (blk_cell X3_4.out 0).trans rfl, (blk_cell X3_4.out 1).trans rfl, (blk_cell X3_4.out 2).trans rfl⟩ (fun hHeld => ?_)
            clear hK K
            refine norm_ (a' := ?_) ?_ ?_
            rotate_left
            · show Act.put _ (some 12) _ = _
              simp only [Act.put, List.setIfInBounds_toArray, List.set_cons_zero, List.set_cons_succ, i64_w, i32_w]
              rfl
            have hne : g7 ≠ g8 := by first | exact Ng8g7.out | exact fun e => Ng7g8.out e.symm
            have hfin := hcont ⟨va, vb, g7, g8⟩ w4 ⟨Rva_4.out, Rvb_4.out, Yg7_4.out, Yg8_4.out, X4_4.out, X5_4.out, HB_4.out, Lg7.out, Lg8.out, N4g7.out, N5g7.out, N4g8.out, N5g8.out, hne, X2_4.out, X3_4.out⟩
            simp only [putAll, Act.put, List.setIfInBounds_toArray, List.set_cons_zero, List.set_cons_succ] at hfin
            exact hfin
      · refine box_step (by rfl) (N := 8) rfl (cs := #[.string ⟨#[]⟩, .string ⟨#[]⟩, .slice none 0 0]) (t := 28) (by first | (go_simp; done) | (go_simp; rfl)) ?_
        intro g8 hg w2 hbox hb
        have Yg8_2 := Aside0.mk hbox
        have Lg8 : Aside0 (w.heap.size ≤ g8) := ⟨by rw [hg]; exact below_size HB_1.out⟩
        have N4g8 : Aside0 (g8 ≠ g4) := ⟨by rw [hg]; exact Nat.ne_of_gt (blk_lt X4_1.out)⟩
        have N5g8 : Aside0 (g8 ≠ g5) := ⟨by rw [hg]; exact Nat.ne_of_gt (blk_lt X5_1.out)⟩
        have Ng7g8 : Aside0 (g8 ≠ g7) := ⟨by rw [hg]; exact Nat.ne_of_gt (blk_lt Yg7_1.out)⟩
        clear hg hbox
        have X2_2 := Aside0.mk (blk_below X2_1.out hb)
        have X3_2 := Aside0.mk (blk_below X3_1.out hb)
        have X4_2 := Aside0.mk (blk_below X4_1.out hb)
        have X5_2 := Aside0.mk (blk_below X5_1.out hb)
        have HB_2 := Aside0.mk (below_step HB_1.out hb)
        have Yg7_2 := Aside0.mk (blk_below Yg7_1.out hb)
        clear hb X2_1 X3_1 X4_1 X5_1 HB_1 Yg7_1
        refine hK.out _ _ ⟨(blk_cell X2_2.out 0).trans rfl, (blk_cell X2_2.out 1).trans rfl, (blk_cell X2_2.out 2).trans rfl, (blk_cell X3_2.out 0).trans rfl, (blk_cell X3_2.out 1).trans rfl, (blk_cell X3_2.out 2).trans rfl⟩ (fun hHeld => ?_)
        clear hK K
        refine norm_ (a' := ?_) ?_ ?_
        rotate_left
        · show Act.put _ (some 8) _ = _
          simp only [Act.put, List.setIfInBounds_toArray, List.set_cons_zero, List.set_cons_succ, i64_w, i32_w]
          rfl
        refine one_ (i := 1) (N := some 10) #[true, true, true, false, true, true, false, false] rfl rfl (by kernel_rfl) (by decide) (fun K hK => ?_)
        · refine goes_ Tryd.func11 (by kernel_rfl) rfl #[.agg #[.string ma, .string ha, .slice A na ca]] (by rfl) rfl rfl (by simp only [List.map_toArray, List.map_cons, List.map_nil]; rfl) ?_
          refine (HA.out _ HB_2.out).mono ?_
          rintro e w3 ⟨va, rfl, hr, hb⟩
          refine ⟨_, rfl, ?_⟩
          have Rva_3 := Aside0.mk (Kd.R_lower hr (below_size HB_2.out))
          have X2_3 := Aside0.mk (blk_below X2_2.out hb)
          have X3_3 := Aside0.mk (blk_below X3_2.out hb)
          have X4_3 := Aside0.mk (blk_below X4_2.out hb)
          have X5_3 := Aside0.mk (blk_below X5_2.out hb)
          have HB_3 := Aside0.mk (below_step HB_2.out hb)
          have Yg7_3 := Aside0.mk (blk_below Yg7_2.out hb)
          have Yg8_3 := Aside0.mk (blk_below Yg8_2.out hb)
          clear hb hr X2_2 X3_2 X4_2 X5_2 HB_2 Yg7_2 Yg8_2
          refine hK.out _ _ ⟨(blk_cell X2_3.out 0).trans rfl, (blk_cell X2_3.out 1).trans rfl, (blk_cell X2_3.out 2).trans rfl, (blk_cell X3_3.out 0).trans rfl, (blk_cell X3_3.out 1).trans rfl, (blk_cell X3_3.out 2).trans rfl⟩ (fun hHeld => ?_)
          clear hK K
          refine norm_ (a' := ?_) ?_ ?_
          rotate_left
          · show Act.put _ (some 10) _ = _
            simp only [Act.put, List.setIfInBounds_toArray, List.set_cons_zero, List.set_cons_succ, i64_w, i32_w]
            rfl
          refine one_ (i := 3) (N := some 12) #[true, true, true, true, true, true, false, false] rfl rfl (by kernel_rfl) (by decide) (fun K hK => ?_)
          · refine goes_ Tryd.func11 (by kernel_rfl) rfl #[.agg #[.string mb, .string hb, .slice B nb cb]] (by rfl) rfl rfl (by simp only [List.map_toArray, List.map_cons, List.map_nil]; rfl) ?_
            refine (HBB.out _ HB_3.out).mono ?_
            rintro e w4 ⟨vb, rfl, hr, hb⟩
            refine ⟨_, rfl, ?_⟩
            have Rvb_4 := Aside0.mk (Kd.R_lower hr (below_size HB_3.out))
            have X2_4 := Aside0.mk (blk_below X2_3.out hb)
            have X3_4 := Aside0.mk (blk_below X3_3.out hb)
            have X4_4 := Aside0.mk (blk_below X4_3.out hb)
            have X5_4 := Aside0.mk (blk_below X5_3.out hb)
            have HB_4 := Aside0.mk (below_step HB_3.out hb)
            have Yg7_4 := Aside0.mk (blk_below Yg7_3.out hb)
            have Yg8_4 := Aside0.mk (blk_below Yg8_3.out hb)
            have Rva_4 := Aside0.mk (Kd.R_below Rva_3.out hb)
            clear hb hr X2_3 X3_3 X4_3 X5_3 HB_3 Yg7_3 Yg8_3 Rva_3
            refine hK.out _ _ ⟨(blk_cell X2_4.out 0).trans rfl, (blk_cell X2_4.out 1).trans rfl, (blk_cell X2_4.out 2).trans rfl, (blk_cell X3_4.out 0).trans rfl, (blk_cell X3_4.out 1).trans rfl, (blk_cell X3_4.out 2).trans rfl⟩ (fun hHeld => ?_)
            clear hK K
            refine norm_ (a' := ?_) ?_ ?_
            rotate_left
            · show Act.put _ (some 12) _ = _
              simp only [Act.put, List.setIfInBounds_toArray, List.set_cons_zero, List.set_cons_succ, i64_w, i32_w]
              rfl
            have hne : g7 ≠ g8 := by first | exact Ng8g7.out | exact fun e => Ng7g8.out e.symm
            have hfin := hcont ⟨va, vb, g7, g8⟩ w4 ⟨Rva_4.out, Rvb_4.out, Yg7_4.out, Yg8_4.out, X4_4.out, X5_4.out, HB_4.out, Lg7.out, Lg8.out, N4g7.out, N5g7.out, N4g8.out, N5g8.out, hne, X2_4.out, X3_4.out⟩
            simp only [putAll, Act.put, List.setIfInBounds_toArray, List.set_cons_zero, List.set_cons_succ] at hfin
            exact hfin
    · refine box_step (by rfl) (N := 8) rfl (cs := #[.string ⟨#[]⟩, .string ⟨#[]⟩, .slice none 0 0]) (t := 28) (by first | (go_simp; done) | (go_simp; rfl)) ?_
      intro g8 hg w1 hbox hb
      have Yg8_1 := Aside0.mk hbox
      have Lg8 : Aside0 (w.heap.size ≤ g8) := ⟨by rw [hg]; exact below_size HB_0.out⟩
      have N4g8 : Aside0 (g8 ≠ g4) := ⟨by rw [hg]; exact Nat.ne_of_gt (blk_lt X4_0.out)⟩
      have N5g8 : Aside0 (g8 ≠ g5) := ⟨by rw [hg]; exact Nat.ne_of_gt (blk_lt X5_0.out)⟩
      clear hg hbox
      have X2_1 := Aside0.mk (blk_below X2_0.out hb)
      have X3_1 := Aside0.mk (blk_below X3_0.out hb)
      have X4_1 := Aside0.mk (blk_below X4_0.out hb)
      have X5_1 := Aside0.mk (blk_below X5_0.out hb)
      have HB_1 := Aside0.mk (below_step HB_0.out hb)
      clear hb X2_0 X3_0 X4_0 X5_0 HB_0
      refine hK.out _ _ ⟨(blk_cell X2_1.out 0).trans rfl, (blk_cell X2_1.out 1).trans rfl, (blk_cell X2_1.out 2).trans rfl, (blk_cell X3_1.out 0).trans rfl, (blk_cell X3_1.out 1).trans rfl, (blk_cell X3_1.out 2).trans rfl⟩ (fun hHeld => ?_)
      clear hK K
      refine norm_ (a' := ?_) ?_ ?_
      rotate_left
      · show Act.put _ (some 8) _ = _
        simp only [Act.put, List.setIfInBounds_toArray, List.set_cons_zero, List.set_cons_succ, i64_w, i32_w]
        rfl
      refine two_ (i := 1) (j := 4) (Ni := some 10) (Nj := some 7) #[true, true, true, false, false, true, false, false] #[true, false, true, false, true, true, false, false] rfl rfl rfl rfl (by kernel_rfl) (by decide) (by decide) (fun K hK => ?_) (fun K hK => ?_)
      · refine goes_ Tryd.func11 (by kernel_rfl) rfl #[.agg #[.string ma, .string ha, .slice A na ca]] (by rfl) rfl rfl (by simp only [List.map_toArray, List.map_cons, List.map_nil]; rfl) ?_
        refine (HA.out _ HB_1.out).mono ?_
        rintro e w2 ⟨va, rfl, hr, hb⟩
        refine ⟨_, rfl, ?_⟩
        have Rva_2 := Aside0.mk (Kd.R_lower hr (below_size HB_1.out))
        have X2_2 := Aside0.mk (blk_below X2_1.out hb)
        have X3_2 := Aside0.mk (blk_below X3_1.out hb)
        have X4_2 := Aside0.mk (blk_below X4_1.out hb)
        have X5_2 := Aside0.mk (blk_below X5_1.out hb)
        have HB_2 := Aside0.mk (below_step HB_1.out hb)
        have Yg8_2 := Aside0.mk (blk_below Yg8_1.out hb)
        clear hb hr X2_1 X3_1 X4_1 X5_1 HB_1 Yg8_1
        refine hK.out _ _ ⟨(blk_cell X2_2.out 0).trans rfl, (blk_cell X2_2.out 1).trans rfl, (blk_cell X2_2.out 2).trans rfl, (blk_cell X3_2.out 0).trans rfl, (blk_cell X3_2.out 1).trans rfl, (blk_cell X3_2.out 2).trans rfl⟩ (fun hHeld => ?_)
        clear hK K
        refine norm_ (a' := ?_) ?_ ?_
        rotate_left
        · show Act.put _ (some 10) _ = _
          simp only [Act.put, List.setIfInBounds_toArray, List.set_cons_zero, List.set_cons_succ, i64_w, i32_w]
          rfl
        refine two_ (i := 3) (j := 4) (Ni := some 12) (Nj := some 7) #[true, true, true, true, false, true, false, false] #[true, true, true, false, true, true, false, false] rfl rfl rfl rfl (by kernel_rfl) (by decide) (by decide) (fun K hK => ?_) (fun K hK => ?_)
        · refine goes_ Tryd.func11 (by kernel_rfl) rfl #[.agg #[.string mb, .string hb, .slice B nb cb]] (by rfl) rfl rfl (by simp only [List.map_toArray, List.map_cons, List.map_nil]; rfl) ?_
          refine (HBB.out _ HB_2.out).mono ?_
          rintro e w3 ⟨vb, rfl, hr, hb⟩
          refine ⟨_, rfl, ?_⟩
          have Rvb_3 := Aside0.mk (Kd.R_lower hr (below_size HB_2.out))
          have X2_3 := Aside0.mk (blk_below X2_2.out hb)
          have X3_3 := Aside0.mk (blk_below X3_2.out hb)
          have X4_3 := Aside0.mk (blk_below X4_2.out hb)
          have X5_3 := Aside0.mk (blk_below X5_2.out hb)
          have HB_3 := Aside0.mk (below_step HB_2.out hb)
          have Yg8_3 := Aside0.mk (blk_below Yg8_2.out hb)
          have Rva_3 := Aside0.mk (Kd.R_below Rva_2.out hb)
          clear hb hr X2_2 X3_2 X4_2 X5_2 HB_2 Yg8_2 Rva_2
          refine hK.out _ _ ⟨(blk_cell X2_3.out 0).trans rfl, (blk_cell X2_3.out 1).trans rfl, (blk_cell X2_3.out 2).trans rfl, (blk_cell X3_3.out 0).trans rfl, (blk_cell X3_3.out 1).trans rfl, (blk_cell X3_3.out 2).trans rfl⟩ (fun hHeld => ?_)
          clear hK K
          refine norm_ (a' := ?_) ?_ ?_
          rotate_left
          · show Act.put _ (some 12) _ = _
            simp only [Act.put, List.setIfInBounds_toArray, List.set_cons_zero, List.set_cons_succ, i64_w, i32_w]
            rfl
          refine one_ (i := 4) (N := some 7) #[true, true, true, true, true, true, false, false] rfl rfl (by kernel_rfl) (by decide) (fun K hK => ?_)
          · refine box_step (by rfl) (N := 7) rfl (cs := #[.string ⟨#[]⟩, .string ⟨#[]⟩, .slice none 0 0]) (t := 28) (by first | (go_simp; done) | (go_simp; rfl)) ?_
            intro g7 hg w4 hbox hb
            have Yg7_4 := Aside0.mk hbox
            have Lg7 : Aside0 (w.heap.size ≤ g7) := ⟨by rw [hg]; exact below_size HB_3.out⟩
            have N4g7 : Aside0 (g7 ≠ g4) := ⟨by rw [hg]; exact Nat.ne_of_gt (blk_lt X4_3.out)⟩
            have N5g7 : Aside0 (g7 ≠ g5) := ⟨by rw [hg]; exact Nat.ne_of_gt (blk_lt X5_3.out)⟩
            have Ng8g7 : Aside0 (g7 ≠ g8) := ⟨by rw [hg]; exact Nat.ne_of_gt (blk_lt Yg8_3.out)⟩
            clear hg hbox
            have X2_4 := Aside0.mk (blk_below X2_3.out hb)
            have X3_4 := Aside0.mk (blk_below X3_3.out hb)
            have X4_4 := Aside0.mk (blk_below X4_3.out hb)
            have X5_4 := Aside0.mk (blk_below X5_3.out hb)
            have HB_4 := Aside0.mk (below_step HB_3.out hb)
            have Yg8_4 := Aside0.mk (blk_below Yg8_3.out hb)
            have Rva_4 := Aside0.mk (Kd.R_below Rva_3.out hb)
            have Rvb_4 := Aside0.mk (Kd.R_below Rvb_3.out hb)
            clear hb X2_3 X3_3 X4_3 X5_3 HB_3 Yg8_3 Rva_3 Rvb_3
            refine hK.out _ _ ⟨(blk_cell X2_4.out 0).trans rfl, (blk_cell X2_4.out 1).trans rfl, (blk_cell X2_4.out 2).trans rfl, (blk_cell X3_4.out 0).trans rfl, (blk_cell X3_4.out 1).trans rfl, (blk_cell X3_4.out 2).trans rfl⟩ (fun hHeld => ?_)
            clear hK K
            refine norm_ (a' := ?_) ?_ ?_
            rotate_left
            · show Act.put _ (some 7) _ = _
              simp only [Act.put, List.setIfInBounds_toArray, List.set_cons_zero, List.set_cons_succ, i64_w, i32_w]
              rfl
            have hne : g7 ≠ g8 := by first | exact Ng8g7.out | exact fun e => Ng7g8.out e.symm
            have hfin := hcont ⟨va, vb, g7, g8⟩ w4 ⟨Rva_4.out, Rvb_4.out, Yg7_4.out, Yg8_4.out, X4_4.out, X5_4.out, HB_4.out, Lg7.out, Lg8.out, N4g7.out, N5g7.out, N4g8.out, N5g8.out, hne, X2_4.out, X3_4.out⟩
            simp only [putAll, Act.put, List.setIfInBounds_toArray, List.set_cons_zero, List.set_cons_succ] at hfin
            exact hfin
        · refine box_step (by rfl) (N := 7) rfl (cs := #[.string ⟨#[]⟩, .string ⟨#[]⟩, .slice none 0 0]) (t := 28) (by first | (go_simp; done) | (go_simp; rfl)) ?_
          intro g7 hg w3 hbox hb
          have Yg7_3 := Aside0.mk hbox
          have Lg7 : Aside0 (w.heap.size ≤ g7) := ⟨by rw [hg]; exact below_size HB_2.out⟩
          have N4g7 : Aside0 (g7 ≠ g4) := ⟨by rw [hg]; exact Nat.ne_of_gt (blk_lt X4_2.out)⟩
          have N5g7 : Aside0 (g7 ≠ g5) := ⟨by rw [hg]; exact Nat.ne_of_gt (blk_lt X5_2.out)⟩
          have Ng8g7 : Aside0 (g7 ≠ g8) := ⟨by rw [hg]; exact Nat.ne_of_gt (blk_lt Yg8_2.out)⟩
          clear hg hbox
          have X2_3 := Aside0.mk (blk_below X2_2.out hb)
          have X3_3 := Aside0.mk (blk_below X3_2.out hb)
          have X4_3 := Aside0.mk (blk_below X4_2.out hb)
          have X5_3 := Aside0.mk (blk_below X5_2.out hb)
          have HB_3 := Aside0.mk (below_step HB_2.out hb)
          have Yg8_3 := Aside0.mk (blk_below Yg8_2.out hb)
          have Rva_3 := Aside0.mk (Kd.R_below Rva_2.out hb)
          clear hb X2_2 X3_2 X4_2 X5_2 HB_2 Yg8_2 Rva_2
          refine hK.out _ _ ⟨(blk_cell X2_3.out 0).trans rfl, (blk_cell X2_3.out 1).trans rfl, (blk_cell X2_3.out 2).trans rfl, (blk_cell X3_3.out 0).trans rfl, (blk_cell X3_3.out 1).trans rfl, (blk_cell X3_3.out 2).trans rfl⟩ (fun hHeld => ?_)
          clear hK K
          refine norm_ (a' := ?_) ?_ ?_
          rotate_left
          · show Act.put _ (some 7) _ = _
            simp only [Act.put, List.setIfInBounds_toArray, List.set_cons_zero, List.set_cons_succ, i64_w, i32_w]
            rfl
          refine one_ (i := 3) (N := some 12) #[true, true, true, true, true, true, false, false] rfl rfl (by kernel_rfl) (by decide) (fun K hK => ?_)
          · refine goes_ Tryd.func11 (by kernel_rfl) rfl #[.agg #[.string mb, .string hb, .slice B nb cb]] (by rfl) rfl rfl (by simp only [List.map_toArray, List.map_cons, List.map_nil]; rfl) ?_
            refine (HBB.out _ HB_3.out).mono ?_
            rintro e w4 ⟨vb, rfl, hr, hb⟩
            refine ⟨_, rfl, ?_⟩
            have Rvb_4 := Aside0.mk (Kd.R_lower hr (below_size HB_3.out))
            have X2_4 := Aside0.mk (blk_below X2_3.out hb)
            have X3_4 := Aside0.mk (blk_below X3_3.out hb)
            have X4_4 := Aside0.mk (blk_below X4_3.out hb)
            have X5_4 := Aside0.mk (blk_below X5_3.out hb)
            have HB_4 := Aside0.mk (below_step HB_3.out hb)
            have Yg8_4 := Aside0.mk (blk_below Yg8_3.out hb)
            have Rva_4 := Aside0.mk (Kd.R_below Rva_3.out hb)
            have Yg7_4 := Aside0.mk (blk_below Yg7_3.out hb)
            clear hb hr X2_3 X3_3 X4_3 X5_3 HB_3 Yg8_3 Rva_3 Yg7_3
            refine hK.out _ _ ⟨(blk_cell X2_4.out 0).trans rfl, (blk_cell X2_4.out 1).trans rfl, (blk_cell X2_4.out 2).trans rfl, (blk_cell X3_4.out 0).trans rfl, (blk_cell X3_4.out 1).trans rfl, (blk_cell X3_4.out 2).trans rfl⟩ (fun hHeld => ?_)
            clear hK K
            refine norm_ (a' := ?_) ?_ ?_
            rotate_left
            · show Act.put _ (some 12) _ = _
              simp only [Act.put, List.setIfInBounds_toArray, List.set_cons_zero, List.set_cons_succ, i64_w, i32_w]
              rfl
            have hne : g7 ≠ g8 := by first | exact Ng8g7.out | exact fun e => Ng7g8.out e.symm
            have hfin := hcont ⟨va, vb, g7, g8⟩ w4 ⟨Rva_4.out, Rvb_4.out, Yg7_4.out, Yg8_4.out, X4_4.out, X5_4.out, HB_4.out, Lg7.out, Lg8.out, N4g7.out, N5g7.out, N4g8.out, N5g8.out, hne, X2_4.out, X3_4.out⟩
            simp only [putAll, Act.put, List.setIfInBounds_toArray, List.set_cons_zero, List.set_cons_succ] at hfin
            exact hfin
      · refine box_step (by rfl) (N := 7) rfl (cs := #[.string ⟨#[]⟩, .string ⟨#[]⟩, .slice none 0 0]) (t := 28) (by first | (go_simp; done) | (go_simp; rfl)) ?_
        intro g7 hg w2 hbox hb
        have Yg7_2 := Aside0.mk hbox
        have Lg7 : Aside0 (w.heap.size ≤ g7) := ⟨by rw [hg]; exact below_size HB_1.out⟩
        have N4g7 : Aside0 (g7 ≠ g4) := ⟨by rw [hg]; exact Nat.ne_of_gt (blk_lt X4_1.out)⟩
        have N5g7 : Aside0 (g7 ≠ g5) := ⟨by rw [hg]; exact Nat.ne_of_gt (blk_lt X5_1.out)⟩
        have Ng8g7 : Aside0 (g7 ≠ g8) := ⟨by rw [hg]; exact Nat.ne_of_gt (blk_lt Yg8_1.out)⟩
        clear hg hbox
        have X2_2 := Aside0.mk (blk_below X2_1.out hb)
        have X3_2 := Aside0.mk (blk_below X3_1.out hb)
        have X4_2 := Aside0.mk (blk_below X4_1.out hb)
        have X5_2 := Aside0.mk (blk_below X5_1.out hb)
        have HB_2 := Aside0.mk (below_step HB_1.out hb)
        have Yg8_2 := Aside0.mk (blk_below Yg8_1.out hb)
        clear hb X2_1 X3_1 X4_1 X5_1 HB_1 Yg8_1
        refine hK.out _ _ ⟨(blk_cell X2_2.out 0).trans rfl, (blk_cell X2_2.out 1).trans rfl, (blk_cell X2_2.out 2).trans rfl, (blk_cell X3_2.out 0).trans rfl, (blk_cell X3_2.out 1).trans rfl, (blk_cell X3_2.out 2).trans rfl⟩ (fun hHeld => ?_)
        clear hK K
        refine norm_ (a' := ?_) ?_ ?_
        rotate_left
        · show Act.put _ (some 7) _ = _
          simp only [Act.put, List.setIfInBounds_toArray, List.set_cons_zero, List.set_cons_succ, i64_w, i32_w]
          rfl
        refine one_ (i := 1) (N := some 10) #[true, true, true, false, true, true, false, false] rfl rfl (by kernel_rfl) (by decide) (fun K hK => ?_)
        · refine goes_ Tryd.func11 (by kernel_rfl) rfl #[.agg #[.string ma, .string ha, .slice A na ca]] (by rfl) rfl rfl (by simp only [List.map_toArray, List.map_cons, List.map_nil]; rfl) ?_
          refine (HA.out _ HB_2.out).mono ?_
          rintro e w3 ⟨va, rfl, hr, hb⟩
          refine ⟨_, rfl, ?_⟩
          have Rva_3 := Aside0.mk (Kd.R_lower hr (below_size HB_2.out))
          have X2_3 := Aside0.mk (blk_below X2_2.out hb)
          have X3_3 := Aside0.mk (blk_below X3_2.out hb)
          have X4_3 := Aside0.mk (blk_below X4_2.out hb)
          have X5_3 := Aside0.mk (blk_below X5_2.out hb)
          have HB_3 := Aside0.mk (below_step HB_2.out hb)
          have Yg8_3 := Aside0.mk (blk_below Yg8_2.out hb)
          have Yg7_3 := Aside0.mk (blk_below Yg7_2.out hb)
          clear hb hr X2_2 X3_2 X4_2 X5_2 HB_2 Yg8_2 Yg7_2
          refine hK.out _ _ ⟨(blk_cell X2_3.out 0).trans rfl, (blk_cell X2_3.out 1).trans rfl, (blk_cell X2_3.out 2).trans rfl, (blk_cell X3_3.out 0).trans rfl, (blk_cell X3_3.out 1).trans rfl, (blk_cell X3_3.out 2).trans rfl⟩ (fun hHeld => ?_)
          clear hK K
          refine norm_ (a' := ?_) ?_ ?_
          rotate_left
          · show Act.put _ (some 10) _ = _
            simp only [Act.put, List.setIfInBounds_toArray, List.set_cons_zero, List.set_cons_succ, i64_w, i32_w]
            rfl
          refine one_ (i := 3) (N := some 12) #[true, true, true, true, true, true, false, false] rfl rfl (by kernel_rfl) (by decide) (fun K hK => ?_)
          · refine goes_ Tryd.func11 (by kernel_rfl) rfl #[.agg #[.string mb, .string hb, .slice B nb cb]] (by rfl) rfl rfl (by simp only [List.map_toArray, List.map_cons, List.map_nil]; rfl) ?_
            refine (HBB.out _ HB_3.out).mono ?_
            rintro e w4 ⟨vb, rfl, hr, hb⟩
            refine ⟨_, rfl, ?_⟩
            have Rvb_4 := Aside0.mk (Kd.R_lower hr (below_size HB_3.out))
            have X2_4 := Aside0.mk (blk_below X2_3.out hb)
            have X3_4 := Aside0.mk (blk_below X3_3.out hb)
            have X4_4 := Aside0.mk (blk_below X4_3.out hb)
            have X5_4 := Aside0.mk (blk_below X5_3.out hb)
            have HB_4 := Aside0.mk (below_step HB_3.out hb)
            have Yg8_4 := Aside0.mk (blk_below Yg8_3.out hb)
            have Yg7_4 := Aside0.mk (blk_below Yg7_3.out hb)
            have Rva_4 := Aside0.mk (Kd.R_below Rva_3.out hb)
            clear hb hr X2_3 X3_3 X4_3 X5_3 HB_3 Yg8_3 Yg7_3 Rva_3
            refine hK.out _ _ ⟨(blk_cell X2_4.out 0).trans rfl, (blk_cell X2_4.out 1).trans rfl, (blk_cell X2_4.out 2).trans rfl, (blk_cell X3_4.out 0).trans rfl, (blk_cell X3_4.out 1).trans rfl, (blk_cell X3_4.out 2).trans rfl⟩ (fun hHeld => ?_)
            clear hK K
            refine norm_ (a' := ?_) ?_ ?_
            rotate_left
            · show Act.put _ (some 12) _ = _
              simp only [Act.put, List.setIfInBounds_toArray, List.set_cons_zero, List.set_cons_succ, i64_w, i32_w]
              rfl
            have hne : g7 ≠ g8 := by first | exact Ng8g7.out | exact fun e => Ng7g8.out e.symm
            have hfin := hcont ⟨va, vb, g7, g8⟩ w4 ⟨Rva_4.out, Rvb_4.out, Yg7_4.out, Yg8_4.out, X4_4.out, X5_4.out, HB_4.out, Lg7.out, Lg8.out, N4g7.out, N5g7.out, N4g8.out, N5g8.out, hne, X2_4.out, X3_4.out⟩
            simp only [putAll, Act.put, List.setIfInBounds_toArray, List.set_cons_zero, List.set_cons_succ] at hfin
            exact hfin
  · rintro ⟨va, vb, g7, g8⟩ w1 ⟨ra, rb, y7, y8, x4, x5, hb1, l7, l8, n74, n75, n84, n85, n78, x2, x3⟩
    dsimp only at ra rb y7 y8 l7 l8 n74 n75 n84 n85 n78
    simp only [putAll, Act.put, List.setIfInBounds_toArray, List.set_cons_zero, List.set_cons_succ]
    obtain ⟨Qa, qna, qca, rfl⟩ : ∃ A n c, va = .slice A n c := by obtain ⟨a, c, e⟩ := Kd.R_slice ra; exact ⟨a, _, c, e⟩
    obtain ⟨Qb, qnb, qcb, rfl⟩ : ∃ A n c, vb = .slice A n c := by obtain ⟨a, c, e⟩ := Kd.R_slice rb; exact ⟨a, _, c, e⟩
    have n72 : g7 ≠ g2 := blk_ne y7 x2 (by decide)
    have n73 : g7 ≠ g3 := blk_ne y7 x3 (by decide)
    have n82 : g8 ≠ g2 := blk_ne y8 x2 (by decide)
    have n83 : g8 ≠ g3 := blk_ne y8 x3 (by decide)
    have RA := Aside0.mk ra; have RB := Aside0.mk rb; have Y7 := Aside0.mk y7; have Y8 := Aside0.mk y8; have X4 := Aside0.mk x4; have X5 := Aside0.mk x5; have HB1 := Aside0.mk hb1; have X2 := Aside0.mk x2; have X3 := Aside0.mk x3
    have NN := Aside0.mk (And.intro n74 (And.intro n75 (And.intro n84 (And.intro n85 (And.intro n78 (And.intro n72 (And.intro n73 (And.intro n82 n83))))))))
    have LL := Aside0.mk (And.intro l7 l8)
    have a0 : w1.cell? ⟨g7, 0, none⟩ = some (.string ⟨#[]⟩) := (blk_cell y7 0).trans rfl
    have a1 : w1.cell? ⟨g7, 1, none⟩ = some (.string ⟨#[]⟩) := (blk_cell y7 1).trans rfl
    have a2 : w1.cell? ⟨g7, 2, none⟩ = some (.slice none 0 0) := (blk_cell y7 2).trans rfl
    have f0 := blk_frozen y7 0
    have f1 := blk_frozen y7 1
    have f2 := blk_frozen y7 2
    clear ra rb y7 y8 x4 x5 hb1 x2 x3 n74 n75 n84 n85 n78 n72 n73 n82 n83 l7 l8
    refine one_ (i := 6) (N := none) #[true, true, true, true, true, true, true, false] rfl rfl (by kernel_rfl) (by decide) (fun K hK => ?_)
    go_simp
    clear a0 a1 a2 f0 f1 f2
    have X2_ := Aside0.mk (set3_far X2.out (fun e => NN.out.2.2.2.2.2.1 e.symm) (.string ma) (.string ha) (.slice Qa qna qca))
    have X3_ := Aside0.mk (set3_far X3.out (fun e => NN.out.2.2.2.2.2.2.1 e.symm) (.string ma) (.string ha) (.slice Qa qna qca))
    have X4_ := Aside0.mk (set3_far X4.out (fun e => NN.out.1 e.symm) (.string ma) (.string ha) (.slice Qa qna qca))
    have X5_ := Aside0.mk (set3_far X5.out (fun e => NN.out.2.1 e.symm) (.string ma) (.string ha) (.slice Qa qna qca))
    have Y8_ := Aside0.mk (set3_far Y8.out (fun e => NN.out.2.2.2.2.1 e.symm) (.string ma) (.string ha) (.slice Qa qna qca))
    have RA_ := Aside0.mk (set3_row RA.out Y7.out (.string ma) (.string ha) (.slice Qa qna qca))
    have RB_ := Aside0.mk (set3_row RB.out Y7.out (.string ma) (.string ha) (.slice Qa qna qca))
    have HB1_ := Aside0.mk (set3_below HB1.out LL.out.1 (.string ma) (.string ha) (.slice Qa qna qca))
    have Y7_ := Aside0.mk (set3 Y7.out (.string ma) (.string ha) (.slice Qa qna qca))
    generalize (((w1.setCell ⟨g7, 0, none⟩ (.string ma)).setCell ⟨g7, 1, none⟩ (.string ha)).setCell ⟨g7, 2, none⟩ (.slice Qa qna qca)) = w2 at X2_ X3_ X4_ X5_ Y8_ RA_ RB_ HB1_ Y7_ ⊢
    clear X2 X3 X4 X5 Y8 RA RB HB1 Y7
    have X2 := X2_; clear X2_
    have X3 := X3_; clear X3_
    have X4 := X4_; clear X4_
    have X5 := X5_; clear X5_
    have Y8 := Y8_; clear Y8_
    have RA := RA_; clear RA_
    have RB := RB_; clear RB_
    have HB1 := HB1_; clear HB1_
    have Y7 := Y7_; clear Y7_
    refine hK.out _ _ ⟨(blk_cell X2.out 0).trans rfl, (blk_cell X2.out 1).trans rfl, (blk_cell X2.out 2).trans rfl, (blk_cell X3.out 0).trans rfl, (blk_cell X3.out 1).trans rfl, (blk_cell X3.out 2).trans rfl⟩ (fun hHeld => ?_)
    clear hK K
    have a0 : w2.cell? ⟨g8, 0, none⟩ = some (.string ⟨#[]⟩) := (blk_cell Y8.out 0).trans rfl
    have a1 : w2.cell? ⟨g8, 1, none⟩ = some (.string ⟨#[]⟩) := (blk_cell Y8.out 1).trans rfl
    have a2 : w2.cell? ⟨g8, 2, none⟩ = some (.slice none 0 0) := (blk_cell Y8.out 2).trans rfl
    have f0 := blk_frozen Y8.out 0
    have f1 := blk_frozen Y8.out 1
    have f2 := blk_frozen Y8.out 2
    refine one_ (i := 7) (N := none) #[true, true, true, true, true, true, true, true] rfl rfl (by kernel_rfl) (by decide) (fun K hK => ?_)
    go_simp
    clear a0 a1 a2 f0 f1 f2
    have X2_ := Aside0.mk (set3_far X2.out (fun e => NN.out.2.2.2.2.2.2.2.1 e.symm) (.string mb) (.string hb) (.slice Qb qnb qcb))
    have X3_ := Aside0.mk (set3_far X3.out (fun e => NN.out.2.2.2.2.2.2.2.2 e.symm) (.string mb) (.string hb) (.slice Qb qnb qcb))
    have X4_ := Aside0.mk (set3_far X4.out (fun e => NN.out.2.2.1 e.symm) (.string mb) (.string hb) (.slice Qb qnb qcb))
    have X5_ := Aside0.mk (set3_far X5.out (fun e => NN.out.2.2.2.1 e.symm) (.string mb) (.string hb) (.slice Qb qnb qcb))
    have Y7_ := Aside0.mk (set3_far Y7.out (fun e => NN.out.2.2.2.2.1 e) (.string mb) (.string hb) (.slice Qb qnb qcb))
    have RA_ := Aside0.mk (set3_row RA.out Y8.out (.string mb) (.string hb) (.slice Qb qnb qcb))
    have RB_ := Aside0.mk (set3_row RB.out Y8.out (.string mb) (.string hb) (.slice Qb qnb qcb))
    have HB1_ := Aside0.mk (set3_below HB1.out LL.out.2 (.string mb) (.string hb) (.slice Qb qnb qcb))
    have Y8_ := Aside0.mk (set3 Y8.out (.string mb) (.string hb) (.slice Qb qnb qcb))
    generalize (((w2.setCell ⟨g8, 0, none⟩ (.string mb)).setCell ⟨g8, 1, none⟩ (.string hb)).setCell ⟨g8, 2, none⟩ (.slice Qb qnb qcb)) = w3 at X2_ X3_ X4_ X5_ Y7_ RA_ RB_ HB1_ Y8_ ⊢
    clear X2 X3 X4 X5 Y7 RA RB HB1 Y8
    have X2 := X2_; clear X2_
    have X3 := X3_; clear X3_
    have X4 := X4_; clear X4_
    have X5 := X5_; clear X5_
    have Y7 := Y7_; clear Y7_
    have RA := RA_; clear RA_
    have RB := RB_; clear RB_
    have HB1 := HB1_; clear HB1_
    have Y8 := Y8_; clear Y8_
    refine hK.out _ _ ⟨(blk_cell X2.out 0).trans rfl, (blk_cell X2.out 1).trans rfl, (blk_cell X2.out 2).trans rfl, (blk_cell X3.out 0).trans rfl, (blk_cell X3.out 1).trans rfl, (blk_cell X3.out 2).trans rfl⟩ (fun hHeld => ?_)
    clear hK K
    refine done_ (by kernel_rfl) ?_
    clear hHeld
    go_wp2_with fail
    refine start_ (n := 11) (S := fun w' => w'.cell? ⟨g7, 0, none⟩ = some (.string ma) ∧ w'.cell? ⟨g7, 1, none⟩ = some (.string ha) ∧ w'.cell? ⟨g7, 2, none⟩ = some (.slice Qa qna qca) ∧ w'.cell? ⟨g8, 0, none⟩ = some (.string mb) ∧ w'.cell? ⟨g8, 1, none⟩ = some (.string hb) ∧ w'.cell? ⟨g8, 2, none⟩ = some (.slice Qb qnb qcb)) (ds := []) #[false, false, false, false, false, false, false, false, false, false, false] (by kernel_rfl) rfl rfl ⟨(blk_cell Y7.out 0).trans rfl, (blk_cell Y7.out 1).trans rfl, (blk_cell Y7.out 2).trans rfl, (blk_cell Y8.out 0).trans rfl, (blk_cell Y8.out 1).trans rfl, (blk_cell Y8.out 2).trans rfl⟩ (fun hHeld => ?_)
    have X4_ := Aside0.mk (blk_drew X4.out); have X5_ := Aside0.mk (blk_drew X5.out); have Y7_ := Aside0.mk (blk_drew Y7.out); have Y8_ := Aside0.mk (blk_drew Y8.out); have RA_ := Aside0.mk (Kd.R_drew RA.out); have RB_ := Aside0.mk (Kd.R_drew RB.out); have HB1_ := Aside0.mk (below_drew HB1.out)
    generalize w3.drew = w4 at X4_ X5_ Y7_ Y8_ RA_ RB_ HB1_ hHeld ⊢
    clear X4 X5 Y7 Y8 RA RB HB1 X2 X3
    have X4 := X4_; clear X4_
    have X5 := X5_; clear X5_
    have Y7 := Y7_; clear Y7_
    have Y8 := Y8_; clear Y8_
    have RA := RA_; clear RA_
    have RB := RB_; clear RB_
    have HB1 := HB1_; clear HB1_
    refine take_ (i := 0) (N := some 13) (v := ?_) (a' := ?_) #[true, false, false, false, false, false, false, false, false, false, false] rfl rfl (by kernel_rfl) (fun _ _ _ h => h) (Or.inl ⟨by rfl, ?_⟩) hHeld ?_ ?_
    rotate_left
    · rintro w' ⟨s0, s1, s2, s3, s4, s5⟩
      go_simp
      with_reducible rfl
    rotate_left
    · simp only [Act.put, List.setIfInBounds_toArray, List.set_cons_zero, List.set_cons_succ, i64_w, i32_w]
      rfl
    refine take_ (i := 1) (N := some 14) (v := ?_) (a' := ?_) #[true, true, false, false, false, false, false, false, false, false, false] rfl rfl (by kernel_rfl) (fun _ _ _ h => h) (Or.inl ⟨by rfl, ?_⟩) hHeld ?_ ?_
    rotate_left
    · rintro w' ⟨s0, s1, s2, s3, s4, s5⟩
      go_simp
      with_reducible rfl
    rotate_left
    · simp only [Act.put, List.setIfInBounds_toArray, List.set_cons_zero, List.set_cons_succ, i64_w, i32_w]
      rfl
    refine take_ (i := 2) (N := some 15) (v := ?_) (a' := ?_) #[true, true, true, false, false, false, false, false, false, false, false] rfl rfl (by kernel_rfl) (fun _ _ _ h => h) (Or.inl ⟨by rfl, ?_⟩) hHeld ?_ ?_
    rotate_left
    · rintro w' ⟨s0, s1, s2, s3, s4, s5⟩
      go_simp
      with_reducible rfl
    rotate_left
    · simp only [Act.put, List.setIfInBounds_toArray, List.set_cons_zero, List.set_cons_succ, i64_w, i32_w]
      rfl
    refine one_ (i := 3) (N := some 16) #[true, true, true, true, false, false, false, false, false, false, false] rfl rfl (by kernel_rfl) (by decide) (fun K hK => ?_)
    obtain ⟨Ar, cr, er, hcr, hCr⟩ := Kd.R_reads RA.out
    have hQ : Calls Tryd.prog 12 #[.agg #[.string ma, .string ha, .slice Qa qna qca]] w4 (SaysGood ma ha (la.map toS) w4) := by rw [er]; exact good_calls ma ha Ar cr (la.map toS) _ HSA.out.meth HSA.out.host (by rw [List.length_map]; exact HSA.out.segs) (fun x hx => by obtain ⟨y, hy, rfl⟩ := List.mem_map.1 hx; exact HSA.out.each y hy) hCr hcr
    clear er hcr hCr
    refine goes_ Tryd.func12 (by kernel_rfl) rfl #[.agg #[.string ma, .string ha, .slice Qa qna qca]] (by rfl) rfl rfl (by simp only [List.map_toArray, List.map_cons, List.map_nil]; rfl) ?_
    refine hQ.mono ?_
    rintro e w5 ⟨b1, rfl, hb1, hb⟩
    have Hb1 := Lib.hid hb1
    clear hb1 hQ
    refine ⟨_, rfl, ?_⟩
    have X4_ := Aside0.mk (blk_below X4.out hb); have X5_ := Aside0.mk (blk_below X5.out hb); have Y7_ := Aside0.mk (blk_below Y7.out hb); have Y8_ := Aside0.mk (blk_below Y8.out hb); have RA_ := Aside0.mk (Kd.R_below RA.out hb); have RB_ := Aside0.mk (Kd.R_below RB.out hb); have HB1_ := Aside0.mk (below_step HB1.out hb)
    clear hb X4 X5 Y7 Y8 RA RB HB1
    have X4 := X4_; clear X4_
    have X5 := X5_; clear X5_
    have Y7 := Y7_; clear Y7_
    have Y8 := Y8_; clear Y8_
    have RA := RA_; clear RA_
    have RB := RB_; clear RB_
    have HB1 := HB1_; clear HB1_
    refine hK.out _ _ ⟨(blk_cell Y7.out 0).trans rfl, (blk_cell Y7.out 1).trans rfl, (blk_cell Y7.out 2).trans rfl, (blk_cell Y8.out 0).trans rfl, (blk_cell Y8.out 1).trans rfl, (blk_cell Y8.out 2).trans rfl⟩ (fun hHeld => ?_)
    clear hK K
    refine norm_ (a' := ?_) ?_ ?_
    rotate_left
    · show Act.put _ (some 16) _ = _
      simp only [Act.put, List.setIfInBounds_toArray, List.set_cons_zero, List.set_cons_succ, i64_w, i32_w]
      rfl
    cases b1 with
    | false =>
      refine pure_ (i := 4) (N := some 17) (v := ?_) (a' := ?_) #[true, true, true, true, true, false, false, false, false, false, false] rfl rfl (by kernel_rfl) (fun _ _ _ h => h) (Or.inl ⟨by rfl, ?_⟩) ?_ ?_
      rotate_left
      · intro w'
        go_simp
        with_reducible rfl
      rotate_left
      · simp only [Act.put, List.setIfInBounds_toArray, List.set_cons_zero, List.set_cons_succ, i64_w, i32_w]
        rfl
      refine one_ (i := 5) (N := some 18) #[true, true, true, true, true, true, false, false, false, false, false] rfl rfl (by kernel_rfl) (by decide) (fun K hK => ?_)
      refine off_ (by rfl) ?_
      refine hK.out _ _ ⟨(blk_cell Y7.out 0).trans rfl, (blk_cell Y7.out 1).trans rfl, (blk_cell Y7.out 2).trans rfl, (blk_cell Y8.out 0).trans rfl, (blk_cell Y8.out 1).trans rfl, (blk_cell Y8.out 2).trans rfl⟩ (fun hHeld => ?_)
      clear hK K
      refine norm_ (a' := ?_) ?_ ?_
      rotate_left
      · show Act.put _ (some 18) _ = _
        simp only [Act.put, List.setIfInBounds_toArray, List.set_cons_zero, List.set_cons_succ, i64_w, i32_w]
        rfl
      refine one_ (i := 6) (N := some 19) #[true, true, true, true, true, true, true, false, false, false, false] rfl rfl (by kernel_rfl) (by decide) (fun K hK => ?_)
      refine off_ (by rfl) ?_
      refine hK.out _ _ ⟨(blk_cell Y7.out 0).trans rfl, (blk_cell Y7.out 1).trans rfl, (blk_cell Y7.out 2).trans rfl, (blk_cell Y8.out 0).trans rfl, (blk_cell Y8.out 1).trans rfl, (blk_cell Y8.out 2).trans rfl⟩ (fun hHeld => ?_)
      clear hK K
      refine norm_ (a' := ?_) ?_ ?_
      rotate_left
      · show Act.put _ (some 19) _ = _
        simp only [Act.put, List.setIfInBounds_toArray, List.set_cons_zero, List.set_cons_succ, i64_w, i32_w]
        rfl
      refine pure_ (i := 7) (N := some 20) (v := ?_) (a' := ?_) #[true, true, true, true, true, true, true, true, false, false, false] rfl rfl (by kernel_rfl) (fun _ _ _ h => h) (Or.inl ⟨by rfl, ?_⟩) ?_ ?_
      rotate_left
      · intro w'
        go_simp
        with_reducible rfl
      rotate_left
      · simp only [Act.put, List.setIfInBounds_toArray, List.set_cons_zero, List.set_cons_succ, i64_w, i32_w]
        rfl
      have a0 : w5.cell? ⟨g4, 0, none⟩ = some (.string ⟨#[]⟩) := (blk_cell X4.out 0).trans rfl
      have a1 : w5.cell? ⟨g4, 1, none⟩ = some (.string ⟨#[]⟩) := (blk_cell X4.out 1).trans rfl
      have a2 : w5.cell? ⟨g4, 2, none⟩ = some (.slice none 0 0) := (blk_cell X4.out 2).trans rfl
      have f0 := blk_frozen X4.out 0
      have f1 := blk_frozen X4.out 1
      have f2 := blk_frozen X4.out 2
      refine one_ (i := 8) (N := none) #[true, true, true, true, true, true, true, true, true, false, false] rfl rfl (by kernel_rfl) (by decide) (fun K hK => ?_)
      go_simp
      clear a0 a1 a2 f0 f1 f2
      have X5_ := Aside0.mk (set3_far X5.out (fun e => n45 e.symm) (.string ma) (.string ha) (.slice Qa qna qca))
      have Y7_ := Aside0.mk (set3_far Y7.out (NN.out.1) (.string ma) (.string ha) (.slice Qa qna qca))
      have Y8_ := Aside0.mk (set3_far Y8.out (NN.out.2.2.1) (.string ma) (.string ha) (.slice Qa qna qca))
      have RA_ := Aside0.mk (set3_row RA.out X4.out (.string ma) (.string ha) (.slice Qa qna qca))
      have RB_ := Aside0.mk (set3_row RB.out X4.out (.string ma) (.string ha) (.slice Qa qna qca))
      have HB1_ := Aside0.mk (set3_below HB1.out n4 (.string ma) (.string ha) (.slice Qa qna qca))
      have X4_ := Aside0.mk (set3 X4.out (.string ma) (.string ha) (.slice Qa qna qca))
      generalize (((w5.setCell ⟨g4, 0, none⟩ (.string ma)).setCell ⟨g4, 1, none⟩ (.string ha)).setCell ⟨g4, 2, none⟩ (.slice Qa qna qca)) = w8 at X5_ Y7_ Y8_ RA_ RB_ HB1_ X4_ ⊢
      clear X5 Y7 Y8 RA RB HB1 X4
      have X5 := X5_; clear X5_
      have Y7 := Y7_; clear Y7_
      have Y8 := Y8_; clear Y8_
      have RA := RA_; clear RA_
      have RB := RB_; clear RB_
      have HB1 := HB1_; clear HB1_
      have X4 := X4_; clear X4_
      refine hK.out _ _ ⟨(blk_cell Y7.out 0).trans rfl, (blk_cell Y7.out 1).trans rfl, (blk_cell Y7.out 2).trans rfl, (blk_cell Y8.out 0).trans rfl, (blk_cell Y8.out 1).trans rfl, (blk_cell Y8.out 2).trans rfl⟩ (fun hHeld => ?_)
      clear hK K
      have a0 : w8.cell? ⟨g5, 0, none⟩ = some (.string ⟨#[]⟩) := (blk_cell X5.out 0).trans rfl
      have a1 : w8.cell? ⟨g5, 1, none⟩ = some (.string ⟨#[]⟩) := (blk_cell X5.out 1).trans rfl
      have a2 : w8.cell? ⟨g5, 2, none⟩ = some (.slice none 0 0) := (blk_cell X5.out 2).trans rfl
      have f0 := blk_frozen X5.out 0
      have f1 := blk_frozen X5.out 1
      have f2 := blk_frozen X5.out 2
      refine one_ (i := 9) (N := none) #[true, true, true, true, true, true, true, true, true, true, false] rfl rfl (by kernel_rfl) (by decide) (fun K hK => ?_)
      go_simp
      clear a0 a1 a2 f0 f1 f2
      have X4_ := Aside0.mk (set3_far X4.out (n45) (.string mb) (.string hb) (.slice Qb qnb qcb))
      have Y7_ := Aside0.mk (set3_far Y7.out (NN.out.2.1) (.string mb) (.string hb) (.slice Qb qnb qcb))
      have Y8_ := Aside0.mk (set3_far Y8.out (NN.out.2.2.2.1) (.string mb) (.string hb) (.slice Qb qnb qcb))
      have RA_ := Aside0.mk (set3_row RA.out X5.out (.string mb) (.string hb) (.slice Qb qnb qcb))
      have RB_ := Aside0.mk (set3_row RB.out X5.out (.string mb) (.string hb) (.slice Qb qnb qcb))
      have HB1_ := Aside0.mk (set3_below HB1.out n5 (.string mb) (.string hb) (.slice Qb qnb qcb))
      have X5_ := Aside0.mk (set3 X5.out (.string mb) (.string hb) (.slice Qb qnb qcb))
      generalize (((w8.setCell ⟨g5, 0, none⟩ (.string mb)).setCell ⟨g5, 1, none⟩ (.string hb)).setCell ⟨g5, 2, none⟩ (.slice Qb qnb qcb)) = w9 at X4_ Y7_ Y8_ RA_ RB_ HB1_ X5_ ⊢
      clear X4 Y7 Y8 RA RB HB1 X5
      have X4 := X4_; clear X4_
      have Y7 := Y7_; clear Y7_
      have Y8 := Y8_; clear Y8_
      have RA := RA_; clear RA_
      have RB := RB_; clear RB_
      have HB1 := HB1_; clear HB1_
      have X5 := X5_; clear X5_
      refine hK.out _ _ ⟨(blk_cell Y7.out 0).trans rfl, (blk_cell Y7.out 1).trans rfl, (blk_cell Y7.out 2).trans rfl, (blk_cell Y8.out 0).trans rfl, (blk_cell Y8.out 1).trans rfl, (blk_cell Y8.out 2).trans rfl⟩ (fun hHeld => ?_)
      clear hK K
      refine pure_ (i := 10) (N := some 6) (v := ?_) (a' := ?_) #[true, true, true, true, true, true, true, true, true, true, true] rfl rfl (by kernel_rfl) (fun _ _ _ h => h) (Or.inl ⟨by rfl, ?_⟩) ?_ ?_
      rotate_left
      · intro w'
        go_simp
        with_reducible rfl
      rotate_left
      · simp only [Act.put, List.setIfInBounds_toArray, List.set_cons_zero, List.set_cons_succ, i64_w, i32_w]
        rfl
      refine done_ (by kernel_rfl) ?_
      clear hHeld
      have z0 : w9.cell? ⟨g4, 0, none⟩ = some (.string ma) := (blk_cell X4.out 0).trans rfl
      have z1 : w9.cell? ⟨g4, 1, none⟩ = some (.string ha) := (blk_cell X4.out 1).trans rfl
      have z2 : w9.cell? ⟨g4, 2, none⟩ = some (.slice Qa qna qca) := (blk_cell X4.out 2).trans rfl
      have z3 : w9.cell? ⟨g5, 0, none⟩ = some (.string mb) := (blk_cell X5.out 0).trans rfl
      have z4 : w9.cell? ⟨g5, 1, none⟩ = some (.string hb) := (blk_cell X5.out 1).trans rfl
      have z5 : w9.cell? ⟨g5, 2, none⟩ = some (.slice Qb qnb qcb) := (blk_cell X5.out 2).trans rfl
      go_wp2_with fail
      refine bodyPost_ret (v := .tuple #[.agg #[.string ma, .string ha, .slice Qa qna qca], .agg #[.string mb, .string hb, .slice Qb qnb qcb], .bool false]) (by simp [results, Tryd.results5, go_sem, z0, z1, z2, z3, z4, z5]) rfl ?_
      exact ⟨_, _, false, rfl, RA.out, RB.out, (fun h => by cases h), HB1.out⟩
    | true =>
      refine pure_ (i := 4) (N := some 17) (v := ?_) (a' := ?_) #[true, true, true, true, true, false, false, false, false, false, false] rfl rfl (by kernel_rfl) (fun _ _ _ h => h) (Or.inl ⟨by rfl, ?_⟩) ?_ ?_
      rotate_left
      · intro w'
        go_simp
        with_reducible rfl
      rotate_left
      · simp only [Act.put, List.setIfInBounds_toArray, List.set_cons_zero, List.set_cons_succ, i64_w, i32_w]
        rfl
      refine take_ (i := 5) (N := some 18) (v := ?_) (a' := ?_) #[true, true, true, true, true, true, false, false, false, false, false] rfl rfl (by kernel_rfl) (fun _ _ _ h => h) (Or.inl ⟨by rfl, ?_⟩) hHeld ?_ ?_
      rotate_left
      · rintro w' ⟨s0, s1, s2, s3, s4, s5⟩
        go_simp
        with_reducible rfl
      rotate_left
      · simp only [Act.put, List.setIfInBounds_toArray, List.set_cons_zero, List.set_cons_succ, i64_w, i32_w]
        rfl
      refine one_ (i := 6) (N := some 19) #[true, true, true, true, true, true, true, false, false, false, false] rfl rfl (by kernel_rfl) (by decide) (fun K hK => ?_)
      obtain ⟨Ar, cr, er, hcr, hCr⟩ := Kd.R_reads RB.out
      have hQ : Calls Tryd.prog 12 #[.agg #[.string mb, .string hb, .slice Qb qnb qcb]] w5 (SaysGood mb hb (lb.map toS) w5) := by rw [er]; exact good_calls mb hb Ar cr (lb.map toS) _ HSB.out.meth HSB.out.host (by rw [List.length_map]; exact HSB.out.segs) (fun x hx => by obtain ⟨y, hy, rfl⟩ := List.mem_map.1 hx; exact HSB.out.each y hy) hCr hcr
      clear er hcr hCr
      refine goes_ Tryd.func12 (by kernel_rfl) rfl #[.agg #[.string mb, .string hb, .slice Qb qnb qcb]] (by rfl) rfl rfl (by simp only [List.map_toArray, List.map_cons, List.map_nil]; rfl) ?_
      refine hQ.mono ?_
      rintro e w6 ⟨b2, rfl, hb2, hb⟩
      have Hb2 := Lib.hid hb2
      clear hb2 hQ
      refine ⟨_, rfl, ?_⟩
      have X4_ := Aside0.mk (blk_below X4.out hb); have X5_ := Aside0.mk (blk_below X5.out hb); have Y7_ := Aside0.mk (blk_below Y7.out hb); have Y8_ := Aside0.mk (blk_below Y8.out hb); have RA_ := Aside0.mk (Kd.R_below RA.out hb); have RB_ := Aside0.mk (Kd.R_below RB.out hb); have HB1_ := Aside0.mk (below_step HB1.out hb)
      clear hb X4 X5 Y7 Y8 RA RB HB1
      have X4 := X4_; clear X4_
      have X5 := X5_; clear X5_
      have Y7 := Y7_; clear Y7_
      have Y8 := Y8_; clear Y8_
      have RA := RA_; clear RA_
      have RB := RB_; clear RB_
      have HB1 := HB1_; clear HB1_
      refine hK.out _ _ ⟨(blk_cell Y7.out 0).trans rfl, (blk_cell Y7.out 1).trans rfl, (blk_cell Y7.out 2).trans rfl, (blk_cell Y8.out 0).trans rfl, (blk_cell Y8.out 1).trans rfl, (blk_cell Y8.out 2).trans rfl⟩ (fun hHeld => ?_)
      clear hK K
      refine norm_ (a' := ?_) ?_ ?_
      rotate_left
      · show Act.put _ (some 19) _ = _
        simp only [Act.put, List.setIfInBounds_toArray, List.set_cons_zero, List.set_cons_succ, i64_w, i32_w]
        rfl
      refine pure_ (i := 7) (N := some 20) (v := ?_) (a' := ?_) #[true, true, true, true, true, true, true, true, false, false, false] rfl rfl (by kernel_rfl) (fun _ _ _ h => h) (Or.inl ⟨by rfl, ?_⟩) ?_ ?_
      rotate_left
      · intro w'
        go_simp
        with_reducible rfl
      rotate_left
      · simp only [Act.put, List.setIfInBounds_toArray, List.set_cons_zero, List.set_cons_succ, i64_w, i32_w]
        rfl
      have a0 : w6.cell? ⟨g4, 0, none⟩ = some (.string ⟨#[]⟩) := (blk_cell X4.out 0).trans rfl
      have a1 : w6.cell? ⟨g4, 1, none⟩ = some (.string ⟨#[]⟩) := (blk_cell X4.out 1).trans rfl
      have a2 : w6.cell? ⟨g4, 2, none⟩ = some (.slice none 0 0) := (blk_cell X4.out 2).trans rfl
      have f0 := blk_frozen X4.out 0
      have f1 := blk_frozen X4.out 1
      have f2 := blk_frozen X4.out 2
      refine one_ (i := 8) (N := none) #[true, true, true, true, true, true, true, true, true, false, false] rfl rfl (by kernel_rfl) (by decide) (fun K hK => ?_)
      go_simp
      clear a0 a1 a2 f0 f1 f2
      have X5_ := Aside0.mk (set3_far X5.out (fun e => n45 e.symm) (.string ma) (.string ha) (.slice Qa qna qca))
      have Y7_ := Aside0.mk (set3_far Y7.out (NN.out.1) (.string ma) (.string ha) (.slice Qa qna qca))
      have Y8_ := Aside0.mk (set3_far Y8.out (NN.out.2.2.1) (.string ma) (.string ha) (.slice Qa qna qca))
      have RA_ := Aside0.mk (set3_row RA.out X4.out (.string ma) (.string ha) (.slice Qa qna qca))
      have RB_ := Aside0.mk (set3_row RB.out X4.out (.string ma) (.string ha) (.slice Qa qna qca))
      have HB1_ := Aside0.mk (set3_below HB1.out n4 (.string ma) (.string ha) (.slice Qa qna qca))
      have X4_ := Aside0.mk (set3 X4.out (.string ma) (.string ha) (.slice Qa qna qca))
      generalize (((w6.setCell ⟨g4, 0, none⟩ (.string ma)).setCell ⟨g4, 1, none⟩ (.string ha)).setCell ⟨g4, 2, none⟩ (.slice Qa qna qca)) = w8 at X5_ Y7_ Y8_ RA_ RB_ HB1_ X4_ ⊢
      clear X5 Y7 Y8 RA RB HB1 X4
      have X5 := X5_; clear X5_
      have Y7 := Y7_; clear Y7_
      have Y8 := Y8_; clear Y8_
      have RA := RA_; clear RA_
      have RB := RB_; clear RB_
      have HB1 := HB1_; clear HB1_
      have X4 := X4_; clear X4_
      refine hK.out _ _ ⟨(blk_cell Y7.out 0).trans rfl, (blk_cell Y7.out 1).trans rfl, (blk_cell Y7.out 2).trans rfl, (blk_cell Y8.out 0).trans rfl, (blk_cell Y8.out 1).trans rfl, (blk_cell Y8.out 2).trans rfl⟩ (fun hHeld => ?_)
      clear hK K
      have a0 : w8.cell? ⟨g5, 0, none⟩ = some (.string ⟨#[]⟩) := (blk_cell X5.out 0).trans rfl
      have a1 : w8.cell? ⟨g5, 1, none⟩ = some (.string ⟨#[]⟩) := (blk_cell X5.out 1).trans rfl
      have a2 : w8.cell? ⟨g5, 2, none⟩ = some (.slice none 0 0) := (blk_cell X5.out 2).trans rfl
      have f0 := blk_frozen X5.out 0
      have f1 := blk_frozen X5.out 1
      have f2 := blk_frozen X5.out 2
      refine one_ (i := 9) (N := none) #[true, true, true, true, true, true, true, true, true, true, false] rfl rfl (by kernel_rfl) (by decide) (fun K hK => ?_)
      go_simp
      clear a0 a1 a2 f0 f1 f2
      have X4_ := Aside0.mk (set3_far X4.out (n45) (.string mb) (.string hb) (.slice Qb qnb qcb))
      have Y7_ := Aside0.mk (set3_far Y7.out (NN.out.2.1) (.string mb) (.string hb) (.slice Qb qnb qcb))
      have Y8_ := Aside0.mk (set3_far Y8.out (NN.out.2.2.2.1) (.string mb) (.string hb) (.slice Qb qnb qcb))
      have RA_ := Aside0.mk (set3_row RA.out X5.out (.string mb) (.string hb) (.slice Qb qnb qcb))
      have RB_ := Aside0.mk (set3_row RB.out X5.out (.string mb) (.string hb) (.slice Qb qnb qcb))
      have HB1_ := Aside0.mk (set3_below HB1.out n5 (.string mb) (.string hb) (.slice Qb qnb qcb))
      have X5_ := Aside0.mk (set3 X5.out (.string mb) (.string hb) (.slice Qb qnb qcb))
      generalize (((w8.setCell ⟨g5, 0, none⟩ (.string mb)).setCell ⟨g5, 1, none⟩ (.string hb)).setCell ⟨g5, 2, none⟩ (.slice Qb qnb qcb)) = w9 at X4_ Y7_ Y8_ RA_ RB_ HB1_ X5_ ⊢
      clear X4 Y7 Y8 RA RB HB1 X5
      have X4 := X4_; clear X4_
      have Y7 := Y7_; clear Y7_
      have Y8 := Y8_; clear Y8_
      have RA := RA_; clear RA_
      have RB := RB_; clear RB_
      have HB1 := HB1_; clear HB1_
      have X5 := X5_; clear X5_
      refine hK.out _ _ ⟨(blk_cell Y7.out 0).trans rfl, (blk_cell Y7.out 1).trans rfl, (blk_cell Y7.out 2).trans rfl, (blk_cell Y8.out 0).trans rfl, (blk_cell Y8.out 1).trans rfl, (blk_cell Y8.out 2).trans rfl⟩ (fun hHeld => ?_)
      clear hK K
      refine pure_ (i := 10) (N := some 6) (v := ?_) (a' := ?_) #[true, true, true, true, true, true, true, true, true, true, true] rfl rfl (by kernel_rfl) (fun _ _ _ h => h) (Or.inl ⟨by rfl, ?_⟩) ?_ ?_
      rotate_left
      · intro w'
        go_simp
        with_reducible rfl
      rotate_left
      · simp only [Act.put, List.setIfInBounds_toArray, List.set_cons_zero, List.set_cons_succ, i64_w, i32_w]
        rfl
      refine done_ (by kernel_rfl) ?_
      clear hHeld
      have z0 : w9.cell? ⟨g4, 0, none⟩ = some (.string ma) := (blk_cell X4.out 0).trans rfl
      have z1 : w9.cell? ⟨g4, 1, none⟩ = some (.string ha) := (blk_cell X4.out 1).trans rfl
      have z2 : w9.cell? ⟨g4, 2, none⟩ = some (.slice Qa qna qca) := (blk_cell X4.out 2).trans rfl
      have z3 : w9.cell? ⟨g5, 0, none⟩ = some (.string mb) := (blk_cell X5.out 0).trans rfl
      have z4 : w9.cell? ⟨g5, 1, none⟩ = some (.string hb) := (blk_cell X5.out 1).trans rfl
      have z5 : w9.cell? ⟨g5, 2, none⟩ = some (.slice Qb qnb qcb) := (blk_cell X5.out 2).trans rfl
      go_wp2_with fail
      refine bodyPost_ret (v := .tuple #[.agg #[.string ma, .string ha, .slice Qa qna qca], .agg #[.string mb, .string hb, .slice Qb qnb qcb], .bool b2]) (by simp [results, Tryd.results5, go_sem, z0, z1, z2, z3, z4, z5]) rfl ?_
      exact ⟨_, _, b2, rfl, RA.out, RB.out, (fun h => ⟨Hb1.out (by first | rfl | trivial), Hb2.out h⟩), HB1.out⟩
end Go.Proofs.YtmkbkpeccddejaaDoor
