/- The walk of the law FnDifference: it answers true. -/
import Derived.Test.YtmkbkpeccddejaaDoorS7
import Derived.Test.YtmkbkpeccddejaaDoorD2
import Derived.Deep.RegionHeld3
namespace Go.Proofs.YtmkbkpeccddejaaDoor
open Go.RowKit PFnDifference Go.Proofs.YtmkbkpeccddejaaDoorW.PrintWords Go.Proofs.YtmkbkpeccddejaaDoorW.PrintLast Go.Proofs.YtmkbkpeccddejaaDoorW.PrintMore
set_option linter.unusedVariables false
set_option linter.unusedSimpArgs false
def LawPost (w : World) (e : Ending) (w' : World) : Prop := e = .returned (.bool true) ∧ Below w.heap.size w w'
set_option maxHeartbeats 8000000 in
set_option maxRecDepth 100000 in
theorem law_calls (ma ha mb hb : ByteArray) (A B : Option Addr) (ca cb : Nat) (la lb : List S47) (w : World) (hprop : Props w)
    (hCa : Kd.C k47 w A la.length la) (hca : la.length ≤ ca) (hCb : Kd.C k47 w B lb.length lb) (hcb : lb.length ≤ cb) :
    Calls Tryd.prog 3 #[.agg #[.string ma, .string ha, .slice A la.length ca], .agg #[.string mb, .string hb, .slice B lb.length cb]] w (LawPost w) := by
  have HCA := Lib.hid hCa; have HCB := Lib.hid hCb; have HPROP := Lib.hid hprop
  obtain ⟨na, hna⟩ : ∃ n, n = la.length := ⟨_, rfl⟩
  obtain ⟨nb, hnb⟩ : ∃ n, n = lb.length := ⟨_, rfl⟩
  rw [← hna] at hca ⊢
  rw [← hnb] at hcb ⊢
  have HNA := Lib.hid hna; have HNB := Lib.hid hnb
  clear hCa hCb hna hnb hprop
  have HB0 := Aside0.mk (below_alloc (below_alloc (Below.refl w.heap.size w) (.cells #[.string ma, .string ha, .slice A na ca] 24)) (.cells #[.string mb, .string hb, .slice B nb cb] 24))
  have HX2 := Aside0.mk (blk_alloc (blk_new w (.cells #[.string ma, .string ha, .slice A na ca] 24)) (.cells #[.string mb, .string hb, .slice B nb cb] 24))
  have HX3 : Aside0 (((w.alloc (.cells #[.string ma, .string ha, .slice A na ca] 24)).alloc (.cells #[.string mb, .string hb, .slice B nb cb] 24)).heap[w.heap.size + 1]? = some (.cells #[.string mb, .string hb, .slice B nb cb] 24 (0, 0))) := ⟨by
    have := blk_new (w.alloc (.cells #[.string ma, .string ha, .slice A na ca] 24)) (.cells #[.string mb, .string hb, .slice B nb cb] 24)
    simpa using this⟩
  have hfitA : ∀ W, Below w.heap.size w W → Calls Tryd.prog 4 #[.agg #[.string ma, .string ha, .slice A na ca]] W fun e w' => ∃ b : Bool, e = .returned (.bool b) ∧ (b = true → Sized ma ha la) ∧ Below W.heap.size W w' := fun W hW => by
    obtain rfl := HNA.out
    exact fits_calls ma ha A ca la W (Kd.C_below HCA.out hW) hca
  have hfitB : ∀ W, Below w.heap.size w W → Calls Tryd.prog 4 #[.agg #[.string mb, .string hb, .slice B nb cb]] W fun e w' => ∃ b : Bool, e = .returned (.bool b) ∧ (b = true → Sized mb hb lb) ∧ Below W.heap.size W w' := fun W hW => by
    obtain rfl := HNB.out
    exact fits_calls mb hb B cb lb W (Kd.C_below HCB.out hW) hcb
  have htwo : ∀ W, Below w.heap.size w W → Sized ma ha la → Sized mb hb lb → Calls Tryd.prog 5 #[.agg #[.string ma, .string ha, .slice A na ca], .agg #[.string mb, .string hb, .slice B nb cb]] W (TwoPost ma ha mb hb la lb W) := fun W hW h1 h2 => by
    obtain rfl := HNA.out
    obtain rfl := HNB.out
    exact two_calls ma ha mb hb A B ca cb la lb W h1 h2 (Kd.C_below HCA.out hW) hca (Kd.C_below HCB.out hW) hcb
  have HFA := Lib.hid hfitA; have HFB := Lib.hid hfitB; have HTWO := Lib.hid htwo
  clear hfitA hfitB htwo
  go_enter Tryd.func3, Tryd.ntmps3
  try simp only [List.append_eq, List.cons_append, List.nil_append]
  go_wp2_with fail
  refine (HFA.out _ HB0.out).mono ?_
  rintro e w1 ⟨b1, rfl, hb1, hbe⟩
  have HBA := Lib.hid hb1
  have HB1 := Aside0.mk (below_step HB0.out hbe)
  have hx2 := blk_below HX2.out hbe
  have hx3 := blk_below HX3.out hbe
  have HY2 := Aside0.mk hx2; have HY3 := Aside0.mk hx3
  have c0 : w1.cell? ⟨w.heap.size, 0, none⟩ = some (.string ma) := (blk_cell hx2 0).trans rfl
  have c1 : w1.cell? ⟨w.heap.size, 1, none⟩ = some (.string ha) := (blk_cell hx2 1).trans rfl
  have c2 : w1.cell? ⟨w.heap.size, 2, none⟩ = some (.slice A na ca) := (blk_cell hx2 2).trans rfl
  have c3 : w1.cell? ⟨w.heap.size + 1, 0, none⟩ = some (.string mb) := (blk_cell hx3 0).trans rfl
  have c4 : w1.cell? ⟨w.heap.size + 1, 1, none⟩ = some (.string hb) := (blk_cell hx3 1).trans rfl
  have c5 : w1.cell? ⟨w.heap.size + 1, 2, none⟩ = some (.slice B nb cb) := (blk_cell hx3 2).trans rfl
  clear hb1 hbe hx2 hx3
  cases b1 with
  | false =>
    go_wp2_with fail
    go_ret
    exact ⟨rfl, HB1.out⟩
  | true =>
    go_wp2_with fail
    refine (HFB.out _ HB1.out).mono ?_
    rintro e w2 ⟨b2, rfl, hb2, hbe⟩
    have HBB := Lib.hid hb2
    have HB2 := Aside0.mk (below_step HB1.out hbe)
    have hx2 := blk_below HY2.out hbe
    have hx3 := blk_below HY3.out hbe
    clear c0 c1 c2 c3 c4 c5
    have c0 : w2.cell? ⟨w.heap.size, 0, none⟩ = some (.string ma) := (blk_cell hx2 0).trans rfl
    have c1 : w2.cell? ⟨w.heap.size, 1, none⟩ = some (.string ha) := (blk_cell hx2 1).trans rfl
    have c2 : w2.cell? ⟨w.heap.size, 2, none⟩ = some (.slice A na ca) := (blk_cell hx2 2).trans rfl
    have c3 : w2.cell? ⟨w.heap.size + 1, 0, none⟩ = some (.string mb) := (blk_cell hx3 0).trans rfl
    have c4 : w2.cell? ⟨w.heap.size + 1, 1, none⟩ = some (.string hb) := (blk_cell hx3 1).trans rfl
    have c5 : w2.cell? ⟨w.heap.size + 1, 2, none⟩ = some (.slice B nb cb) := (blk_cell hx3 2).trans rfl
    clear hb2 hbe hx2 hx3
    cases b2 with
    | false =>
      go_wp2_with fail
      go_ret
      exact ⟨rfl, HB2.out⟩
    | true =>
      go_wp2_with fail
      refine (HTWO.out _ HB2.out (HBA.out (by first | rfl | trivial)) (HBB.out (by first | rfl | trivial))).mono ?_
      rintro e w3 ⟨va, vb, bg, rfl, hra, hrb, hg, hbe⟩
      obtain ⟨Pa, pa, rfl, hpa, hCa⟩ := Kd.R_reads hra
      obtain ⟨Pb, pb, rfl, hpb, hCb⟩ := Kd.R_reads hrb
      have HCa := Lib.hid hCa; have HCb := Lib.hid hCb
      have HG := Lib.hid hg
      have HB3 := Aside0.mk (below_step HB2.out hbe)
      clear hra hrb hCa hCb hg hbe c0 c1 c2 c3 c4 c5
      obtain ⟨l1, hl1⟩ : ∃ l, l = la.map toS := ⟨_, rfl⟩
      obtain ⟨l2, hl2⟩ : ∃ l, l = lb.map toS := ⟨_, rfl⟩
      rw [← hl1] at HCa HG hpa ⊢
      rw [← hl2] at HCb HG hpb ⊢
      obtain ⟨n1, hn1⟩ : ∃ n, n = l1.length := ⟨_, rfl⟩
      obtain ⟨n2, hn2⟩ : ∃ n, n = l2.length := ⟨_, rfl⟩
      rw [← hn1] at HCa hpa ⊢
      rw [← hn2] at HCb hpb ⊢
      have HN1 := Lib.hid hn1; have HN2 := Lib.hid hn2
      clear hl1 hl2 hn1 hn2
      cases bg with
      | false =>
        go_wp2_with fail
        go_ret
        exact ⟨rfl, by first | exact HB3.out | (exact below_alloc (below_alloc HB3.out _) _)⟩
      | true =>
        go_wp2_with fail
        obtain ⟨GA, GB⟩ := HG.out (by first | rfl | trivial)
        have hby : ∀ W, Below w3.heap.size w3 W → Calls Tryd.prog 6 #[.agg #[.string ma, .string ha, .slice Pa n1 pa], .agg #[.string mb, .string hb, .slice Pb n2 pb]] W fun e w' => ∃ a : R5, e = .returned (.string a.txt) ∧ ((a = .mg ∨ a = .ov) → RelOK l1 l2) ∧ Below W.heap.size W w' := fun W hW => by
          obtain rfl := HN1.out
          obtain rfl := HN2.out
          exact bypaths_calls ma ha mb hb Pa Pb pa pb l1 l2 W (Kd.C_below HCa.out hW) (Kd.C_below HCb.out hW) hpa hpb GA.good.pos GB.good.pos GA.good.six GB.good.six
        have hwrA : ∀ W, Below w3.heap.size w3 W → Calls Tryd.prog 8 #[.agg #[.string ma, .string ha, .slice Pa n1 pa]] W fun e w' => ∃ s : ByteArray, e = .returned (.string s) ∧ s.data.toList = writeL ma ha l1 ∧ Below W.heap.size W w' := fun W hW => by
          obtain rfl := HN1.out
          exact write_calls ma ha Pa pa l1 W (by have := GA.meth.1; omega) (by have := GA.host.1; omega) (Kd.C_below HCa.out hW) hpa GA.good.six GA.good.sizes
        have hmtA : ∀ W, RelOK l1 l2 → Below w3.heap.size w3 W → Calls Tryd.prog 9 #[.agg #[.string ma, .string ha, .slice Pa n1 pa], .string ⟨(diffB l1 l2).toArray⟩] W (MatchedPost true W) := fun W hr hW => by
          obtain rfl := HN1.out
          obtain ⟨p1, p2, p3, p4, p5, p6, p7, p8⟩ := plain_law l1 l2 GA.good GB.good hr
          have := matched_calls ma ha ⟨(diffB l1 l2).toArray⟩ Pa pa l1 (diffI l1 l2) W GA.good.six p2 p3 (List.length_pos_iff.2 p4) (by omega) (by rw [Lib.size_eq]; show (diffB l1 l2).length ≤ 120; omega) (Kd.C_below HCa.out hW) hpa
          rw [p7] at this
          exact this
        have hwrB : ∀ W, Below w3.heap.size w3 W → Calls Tryd.prog 8 #[.agg #[.string mb, .string hb, .slice Pb n2 pb]] W fun e w' => ∃ s : ByteArray, e = .returned (.string s) ∧ s.data.toList = writeL mb hb l2 ∧ Below W.heap.size W w' := fun W hW => by
          obtain rfl := HN2.out
          exact write_calls mb hb Pb pb l2 W (by have := GB.meth.1; omega) (by have := GB.host.1; omega) (Kd.C_below HCb.out hW) hpb GB.good.six GB.good.sizes
        have hmtB : ∀ W, RelOK l1 l2 → Below w3.heap.size w3 W → Calls Tryd.prog 9 #[.agg #[.string mb, .string hb, .slice Pb n2 pb], .string ⟨(diffB l1 l2).toArray⟩] W (MatchedPost false W) := fun W hr hW => by
          obtain rfl := HN2.out
          obtain ⟨p1, p2, p3, p4, p5, p6, p7, p8⟩ := plain_law l1 l2 GA.good GB.good hr
          have := matched_calls mb hb ⟨(diffB l1 l2).toArray⟩ Pb pb l2 (diffI l1 l2) W GB.good.six p2 p3 (List.length_pos_iff.2 p4) (by omega) (by rw [Lib.size_eq]; show (diffB l1 l2).length ≤ 120; omega) (Kd.C_below HCb.out hW) hpb
          rw [p8] at this
          exact this
        have hdf : ∀ (W : World) (s1 s2 : ByteArray), RelOK l1 l2 → Below w3.heap.size w3 W → s1.data.toList = writeL ma ha l1 → s2.data.toList = writeL mb hb l2 → Calls Tryd.prog 7 #[.string s1, .string s2] W fun e w' => e = .returned (.string ⟨(diffB l1 l2).toArray⟩) ∧ Below W.heap.size W w' := fun W s1 s2 hr hW h1 h2 =>
          diff7_calls ma ha s1 mb hb s2 l1 l2 W GA h1 GB h2 (plain_law l1 l2 GA.good GB.good hr).1 ((HPROP.out.later HB3.out).later hW)
        have HBY := Lib.hid hby; have HWA := Lib.hid hwrA; have HWB := Lib.hid hwrB; have HMA := Lib.hid hmtA; have HMB := Lib.hid hmtB; have HDF := Lib.hid hdf
        clear hby hwrA hwrB hmtA hmtB hdf GA GB HG HCa HCb HBA HBB HFA HFB HTWO hpa hpb HN1 HN2 HX2 HX3 HY2 HY3
        obtain ⟨gp, hgp⟩ : ∃ g, g = w3.heap.size := ⟨_, rfl⟩
        obtain ⟨gq, hgq⟩ : ∃ g, g = w3.heap.size + 1 := ⟨_, rfl⟩
        have b4 : Below w3.heap.size w3 ((w3.alloc (.cells #[.string ma, .string ha, .slice Pa n1 pa] 28)).alloc (.cells #[.string mb, .string hb, .slice Pb n2 pb] 28)) := below_alloc (below_alloc (Below.refl _ _) _) _
        have y4 : ((w3.alloc (.cells #[.string ma, .string ha, .slice Pa n1 pa] 28)).alloc (.cells #[.string mb, .string hb, .slice Pb n2 pb] 28)).heap[gp]? = some (.cells #[.string ma, .string ha, .slice Pa n1 pa] 28 (0, 0)) := by rw [hgp]; exact blk_alloc (blk_new w3 _) _
        have z4 : ((w3.alloc (.cells #[.string ma, .string ha, .slice Pa n1 pa] 28)).alloc (.cells #[.string mb, .string hb, .slice Pb n2 pb] 28)).heap[gq]? = some (.cells #[.string mb, .string hb, .slice Pb n2 pb] 28 (0, 0)) := by
          have := blk_new (w3.alloc (.cells #[.string ma, .string ha, .slice Pa n1 pa] 28)) (.cells #[.string mb, .string hb, .slice Pb n2 pb] 28)
          rw [hgq]; simpa using this
        obtain ⟨w4, hw4⟩ : ∃ W, W = ((w3.alloc (.cells #[.string ma, .string ha, .slice Pa n1 pa] 28)).alloc (.cells #[.string mb, .string hb, .slice Pb n2 pb] 28)) := ⟨_, rfl⟩
        rw [← hw4] at b4 y4 z4 ⊢
        rw [← hgq, ← hgp]
        have B4 := Aside0.mk b4; have Y4 := Aside0.mk y4; have Z4 := Aside0.mk z4
        clear b4 y4 z4 hw4 hgp hgq
        refine (HBY.out _ B4.out).mono ?_
        rintro e w5 ⟨a, rfl, hrel, hbe⟩
        have HREL := Lib.hid hrel
        have hy5 := blk_below Y4.out hbe; have hz5 := blk_below Z4.out hbe
        have B5 := Aside0.mk (below_step B4.out hbe); have Y5 := Aside0.mk hy5; have Z5 := Aside0.mk hz5
        have c0 : w5.cell? ⟨gp, 0, none⟩ = some (.string ma) := (blk_cell hy5 0).trans rfl
        have c1 : w5.cell? ⟨gp, 1, none⟩ = some (.string ha) := (blk_cell hy5 1).trans rfl
        have c2 : w5.cell? ⟨gp, 2, none⟩ = some (.slice Pa n1 pa) := (blk_cell hy5 2).trans rfl
        have c3 : w5.cell? ⟨gq, 0, none⟩ = some (.string mb) := (blk_cell hz5 0).trans rfl
        have c4 : w5.cell? ⟨gq, 1, none⟩ = some (.string hb) := (blk_cell hz5 1).trans rfl
        have c5 : w5.cell? ⟨gq, 2, none⟩ = some (.slice Pb n2 pb) := (blk_cell hz5 2).trans rfl
        clear hrel hbe hy5 hz5 B4 Y4 Z4
        cases a
        case eq =>
          have m1 : (R5.eq.txt.toList == [109, 111, 114, 101, 71, 101, 110, 101, 114, 97, 108]) = false := by rw [Lib.toList_data]; rfl
          have m2 : (R5.eq.txt.toList == [111, 118, 101, 114, 108, 97, 112, 115]) = false := by rw [Lib.toList_data]; rfl
          go_wp2_with fail
          go_ret
          exact ⟨rfl, below_step HB3.out B5.out⟩
        case ms =>
          have m1 : (R5.ms.txt.toList == [109, 111, 114, 101, 71, 101, 110, 101, 114, 97, 108]) = false := by rw [Lib.toList_data]; rfl
          have m2 : (R5.ms.txt.toList == [111, 118, 101, 114, 108, 97, 112, 115]) = false := by rw [Lib.toList_data]; rfl
          go_wp2_with fail
          go_ret
          exact ⟨rfl, below_step HB3.out B5.out⟩
        case dj =>
          have m1 : (R5.dj.txt.toList == [109, 111, 114, 101, 71, 101, 110, 101, 114, 97, 108]) = false := by rw [Lib.toList_data]; rfl
          have m2 : (R5.dj.txt.toList == [111, 118, 101, 114, 108, 97, 112, 115]) = false := by rw [Lib.toList_data]; rfl
          go_wp2_with fail
          go_ret
          exact ⟨rfl, below_step HB3.out B5.out⟩
        case mg =>
          have m1 : (R5.mg.txt.toList == [109, 111, 114, 101, 71, 101, 110, 101, 114, 97, 108]) = true := by rw [Lib.toList_data]; rfl
          have m2 : (R5.mg.txt.toList == [111, 118, 101, 114, 108, 97, 112, 115]) = false := by rw [Lib.toList_data]; rfl
          have HR := Lib.hid (HREL.out (by first | exact .inl rfl | exact .inr rfl))
          have hS0 : Below w3.heap.size w3 w5.drew ∧ w5.drew.cell? ⟨gp, 0, none⟩ = some (.string ma) ∧ w5.drew.cell? ⟨gp, 1, none⟩ = some (.string ha) ∧ w5.drew.cell? ⟨gp, 2, none⟩ = some (.slice Pa n1 pa) ∧ w5.drew.cell? ⟨gq, 0, none⟩ = some (.string mb) ∧ w5.drew.cell? ⟨gq, 1, none⟩ = some (.string hb) ∧ w5.drew.cell? ⟨gq, 2, none⟩ = some (.slice Pb n2 pb) := ⟨B5.out.drew, c0, c1, c2, c3, c4, c5⟩
          have hstep : Hid (∀ W W1 : World, Below W.heap.size W W1 → (Below w3.heap.size w3 W ∧ W.cell? ⟨gp, 0, none⟩ = some (.string ma) ∧ W.cell? ⟨gp, 1, none⟩ = some (.string ha) ∧ W.cell? ⟨gp, 2, none⟩ = some (.slice Pa n1 pa) ∧ W.cell? ⟨gq, 0, none⟩ = some (.string mb) ∧ W.cell? ⟨gq, 1, none⟩ = some (.string hb) ∧ W.cell? ⟨gq, 2, none⟩ = some (.slice Pb n2 pb)) → (Below w3.heap.size w3 W1 ∧ W1.cell? ⟨gp, 0, none⟩ = some (.string ma) ∧ W1.cell? ⟨gp, 1, none⟩ = some (.string ha) ∧ W1.cell? ⟨gp, 2, none⟩ = some (.slice Pa n1 pa) ∧ W1.cell? ⟨gq, 0, none⟩ = some (.string mb) ∧ W1.cell? ⟨gq, 1, none⟩ = some (.string hb) ∧ W1.cell? ⟨gq, 2, none⟩ = some (.slice Pb n2 pb))) := fun W W1 hb hS => ⟨below_step hS.1 hb, pw_cell_below hb hS.2.1, pw_cell_below hb hS.2.2.1, pw_cell_below hb hS.2.2.2.1, pw_cell_below hb hS.2.2.2.2.1, pw_cell_below hb hS.2.2.2.2.2.1, pw_cell_below hb hS.2.2.2.2.2.2⟩
          have hproj : Hid (∀ W : World, (Below w3.heap.size w3 W ∧ W.cell? ⟨gp, 0, none⟩ = some (.string ma) ∧ W.cell? ⟨gp, 1, none⟩ = some (.string ha) ∧ W.cell? ⟨gp, 2, none⟩ = some (.slice Pa n1 pa) ∧ W.cell? ⟨gq, 0, none⟩ = some (.string mb) ∧ W.cell? ⟨gq, 1, none⟩ = some (.string hb) ∧ W.cell? ⟨gq, 2, none⟩ = some (.slice Pb n2 pb)) → Below w3.heap.size w3 W) := fun W hS => hS.1
          clear HREL
          go_wp2_with fail
          go_region_held3 (fun w' => Below w3.heap.size w3 w' ∧ w'.cell? ⟨gp, 0, none⟩ = some (.string ma) ∧ w'.cell? ⟨gp, 1, none⟩ = some (.string ha) ∧ w'.cell? ⟨gp, 2, none⟩ = some (.slice Pa n1 pa) ∧ w'.cell? ⟨gq, 0, none⟩ = some (.string mb) ∧ w'.cell? ⟨gq, 1, none⟩ = some (.string hb) ∧ w'.cell? ⟨gq, 2, none⟩ = some (.slice Pb n2 pb)) (first | exact hS0 | exact hstep.out _ _ (by assumption) (by assumption)) (first
            | (go_at_call_of 8 ma; refine (HWA.out _ (hproj.out _ (by assumption))).mono ?_; rintro e wx ⟨s1, rfl, hs1, hbx⟩; have HS1 := Lib.hid hs1; clear hs1)
            | (go_at_call_of 8 mb; refine (HWB.out _ (hproj.out _ (by assumption))).mono ?_; rintro e wx ⟨s2, rfl, hs2, hbx⟩; have HS2 := Lib.hid hs2; clear hs2)
            | (go_at_call 7; refine (HDF.out _ _ _ HR.out (hproj.out _ (by assumption)) HS1.out HS2.out).mono ?_; rintro e wx ⟨rfl, hbx⟩))
          clear hstep hproj hS0 c0 c1 c2 c3 c4 c5
          have hSw : Below w3.heap.size w3 wx ∧ wx.cell? ⟨gp, 0, none⟩ = some (.string ma) ∧ wx.cell? ⟨gp, 1, none⟩ = some (.string ha) ∧ wx.cell? ⟨gp, 2, none⟩ = some (.slice Pa n1 pa) ∧ wx.cell? ⟨gq, 0, none⟩ = some (.string mb) ∧ wx.cell? ⟨gq, 1, none⟩ = some (.string hb) ∧ wx.cell? ⟨gq, 2, none⟩ = some (.slice Pb n2 pb) := by assumption
          obtain ⟨sB, c0, c1, c2, c3, c4, c5⟩ := hSw
          have B6 := Aside0.mk sB
          clear sB
          go_wp2_with fail
          refine (HMA.out _ HR.out B6.out).mono ?_
          rintro e w7 ⟨rfl, hb7⟩
          have d0 := pw_cell_below hb7 c0
          have d1 := pw_cell_below hb7 c1
          have d2 := pw_cell_below hb7 c2
          have d3 := pw_cell_below hb7 c3
          have d4 := pw_cell_below hb7 c4
          have d5 := pw_cell_below hb7 c5
          have B7 := Aside0.mk (below_step B6.out hb7)
          clear hb7 c0 c1 c2 c3 c4 c5
          go_wp2_with fail
          refine (HMB.out _ HR.out B7.out).mono ?_
          rintro e w8 ⟨rfl, hb8⟩
          have B8 := Aside0.mk (below_step B7.out hb8)
          clear hb8 d0 d1 d2 d3 d4 d5
          go_wp2_with fail
          go_ret
          exact ⟨rfl, below_step HB3.out B8.out⟩
        case ov =>
          have m1 : (R5.ov.txt.toList == [109, 111, 114, 101, 71, 101, 110, 101, 114, 97, 108]) = false := by rw [Lib.toList_data]; rfl
          have m2 : (R5.ov.txt.toList == [111, 118, 101, 114, 108, 97, 112, 115]) = true := by rw [Lib.toList_data]; rfl
          have HR := Lib.hid (HREL.out (by first | exact .inl rfl | exact .inr rfl))
          have hS0 : Below w3.heap.size w3 w5.drew ∧ w5.drew.cell? ⟨gp, 0, none⟩ = some (.string ma) ∧ w5.drew.cell? ⟨gp, 1, none⟩ = some (.string ha) ∧ w5.drew.cell? ⟨gp, 2, none⟩ = some (.slice Pa n1 pa) ∧ w5.drew.cell? ⟨gq, 0, none⟩ = some (.string mb) ∧ w5.drew.cell? ⟨gq, 1, none⟩ = some (.string hb) ∧ w5.drew.cell? ⟨gq, 2, none⟩ = some (.slice Pb n2 pb) := ⟨B5.out.drew, c0, c1, c2, c3, c4, c5⟩
          have hstep : Hid (∀ W W1 : World, Below W.heap.size W W1 → (Below w3.heap.size w3 W ∧ W.cell? ⟨gp, 0, none⟩ = some (.string ma) ∧ W.cell? ⟨gp, 1, none⟩ = some (.string ha) ∧ W.cell? ⟨gp, 2, none⟩ = some (.slice Pa n1 pa) ∧ W.cell? ⟨gq, 0, none⟩ = some (.string mb) ∧ W.cell? ⟨gq, 1, none⟩ = some (.string hb) ∧ W.cell? ⟨gq, 2, none⟩ = some (.slice Pb n2 pb)) → (Below w3.heap.size w3 W1 ∧ W1.cell? ⟨gp, 0, none⟩ = some (.string ma) ∧ W1.cell? ⟨gp, 1, none⟩ = some (.string ha) ∧ W1.cell? ⟨gp, 2, none⟩ = some (.slice Pa n1 pa) ∧ W1.cell? ⟨gq, 0, none⟩ = some (.string mb) ∧ W1.cell? ⟨gq, 1, none⟩ = some (.string hb) ∧ W1.cell? ⟨gq, 2, none⟩ = some (.slice Pb n2 pb))) := fun W W1 hb hS => ⟨below_step hS.1 hb, pw_cell_below hb hS.2.1, pw_cell_below hb hS.2.2.1, pw_cell_below hb hS.2.2.2.1, pw_cell_below hb hS.2.2.2.2.1, pw_cell_below hb hS.2.2.2.2.2.1, pw_cell_below hb hS.2.2.2.2.2.2⟩
          have hproj : Hid (∀ W : World, (Below w3.heap.size w3 W ∧ W.cell? ⟨gp, 0, none⟩ = some (.string ma) ∧ W.cell? ⟨gp, 1, none⟩ = some (.string ha) ∧ W.cell? ⟨gp, 2, none⟩ = some (.slice Pa n1 pa) ∧ W.cell? ⟨gq, 0, none⟩ = some (.string mb) ∧ W.cell? ⟨gq, 1, none⟩ = some (.string hb) ∧ W.cell? ⟨gq, 2, none⟩ = some (.slice Pb n2 pb)) → Below w3.heap.size w3 W) := fun W hS => hS.1
          clear HREL
          go_wp2_with fail
          go_region_held3 (fun w' => Below w3.heap.size w3 w' ∧ w'.cell? ⟨gp, 0, none⟩ = some (.string ma) ∧ w'.cell? ⟨gp, 1, none⟩ = some (.string ha) ∧ w'.cell? ⟨gp, 2, none⟩ = some (.slice Pa n1 pa) ∧ w'.cell? ⟨gq, 0, none⟩ = some (.string mb) ∧ w'.cell? ⟨gq, 1, none⟩ = some (.string hb) ∧ w'.cell? ⟨gq, 2, none⟩ = some (.slice Pb n2 pb)) (first | exact hS0 | exact hstep.out _ _ (by assumption) (by assumption)) (first
            | (go_at_call_of 8 ma; refine (HWA.out _ (hproj.out _ (by assumption))).mono ?_; rintro e wx ⟨s1, rfl, hs1, hbx⟩; have HS1 := Lib.hid hs1; clear hs1)
            | (go_at_call_of 8 mb; refine (HWB.out _ (hproj.out _ (by assumption))).mono ?_; rintro e wx ⟨s2, rfl, hs2, hbx⟩; have HS2 := Lib.hid hs2; clear hs2)
            | (go_at_call 7; refine (HDF.out _ _ _ HR.out (hproj.out _ (by assumption)) HS1.out HS2.out).mono ?_; rintro e wx ⟨rfl, hbx⟩))
          clear hstep hproj hS0 c0 c1 c2 c3 c4 c5
          have hSw : Below w3.heap.size w3 wx ∧ wx.cell? ⟨gp, 0, none⟩ = some (.string ma) ∧ wx.cell? ⟨gp, 1, none⟩ = some (.string ha) ∧ wx.cell? ⟨gp, 2, none⟩ = some (.slice Pa n1 pa) ∧ wx.cell? ⟨gq, 0, none⟩ = some (.string mb) ∧ wx.cell? ⟨gq, 1, none⟩ = some (.string hb) ∧ wx.cell? ⟨gq, 2, none⟩ = some (.slice Pb n2 pb) := by assumption
          obtain ⟨sB, c0, c1, c2, c3, c4, c5⟩ := hSw
          have B6 := Aside0.mk sB
          clear sB
          go_wp2_with fail
          refine (HMA.out _ HR.out B6.out).mono ?_
          rintro e w7 ⟨rfl, hb7⟩
          have d0 := pw_cell_below hb7 c0
          have d1 := pw_cell_below hb7 c1
          have d2 := pw_cell_below hb7 c2
          have d3 := pw_cell_below hb7 c3
          have d4 := pw_cell_below hb7 c4
          have d5 := pw_cell_below hb7 c5
          have B7 := Aside0.mk (below_step B6.out hb7)
          clear hb7 c0 c1 c2 c3 c4 c5
          go_wp2_with fail
          refine (HMB.out _ HR.out B7.out).mono ?_
          rintro e w8 ⟨rfl, hb8⟩
          have B8 := Aside0.mk (below_step B7.out hb8)
          clear hb8 d0 d1 d2 d3 d4 d5
          go_wp2_with fail
          go_ret
          exact ⟨rfl, below_step HB3.out B8.out⟩
end Go.Proofs.YtmkbkpeccddejaaDoor
