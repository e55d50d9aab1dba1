/- The walk of the program's DifferencePath at two patterns that are good and written. -/
import Derived.Test.YtmkbkpeccddejaaDoorP4
import Derived.Test.YtmkbkpeccddejaaDoorD1
namespace Go.Proofs.YtmkbkpeccddejaaDoor
open Go.RowKit PFnDifference Go.Proofs.YtmkbkpeccddejaaDoorW.PrintWords Go.Proofs.YtmkbkpeccddejaaDoorW.PrintLast Go.Proofs.YtmkbkpeccddejaaDoorW.PrintMore
open Go.Lib
set_option linter.unusedVariables false
set_option linter.unusedSimpArgs false

/-- What must hands back. -/
def MustPost (s m h : ByteArray) (l : List S42) (w : World) (e : Ending) (w' : World) : Prop :=
  ∃ (pb : Nat) (v : Value), e = .returned (.pointer (some ⟨pb, 0, none⟩)) ∧ w.heap.size ≤ pb ∧ w'.heap[pb]? = some (.cells #[.string s, .string m, .string h, v, .string ⟨#[]⟩] 60 (0, 0)) ∧
    Kd.R k42 62 w' w.heap.size (fun _ => True) v l ∧ Below w.heap.size w w'
set_option maxHeartbeats 4000000 in
theorem must_calls (m h s : ByteArray) (l : List S42) (w : World) (hp : GoodP m h l) (hs : s.data.toList = writeL m h l) (hprop : Props w) :
    Calls Tryd.prog 24 #[.string s] w (MustPost s m h l w) := by
  have HP := Lib.hid hp; have HS := Lib.hid hs; have HPR := Lib.hid hprop
  clear hp hs hprop
  go_enter Tryd.func24, Tryd.ntmps24
  go_wp2_with fail
  refine (parse_calls m h s l _ HP.out HS.out HPR.out).mono ?_
  rintro e w2 ⟨pb, v, rfl, h1, h2, h3, h4⟩
  have H1 := Aside0.mk h1; have H2 := Aside0.mk h2; have H3 := Aside0.mk h3; have H4 := Aside0.mk h4
  clear h1 h2 h3 h4
  go_wp2_with fail
  go_ret
  exact ⟨pb, v, rfl, H1.out, H2.out, H3.out, H4.out⟩
set_option maxHeartbeats 4000000 in
theorem diff15_calls (m1 h1 s1 m2 h2 s2 : ByteArray) (l1 l2 : List S42) (w : World) (hp1 : GoodP m1 h1 l1) (hs1 : s1.data.toList = writeL m1 h1 l1) (hp2 : GoodP m2 h2 l2) (hs2 : s2.data.toList = writeL m2 h2 l2) (hno : NoClash l1 l2) (hprop : Props w) :
    Calls Tryd.prog 15 #[.string s1, .string s2] w fun e w' => e = .returned (.string ⟨(diffB l1 l2).toArray⟩) ∧ Below w.heap.size w w' := by
  have HP1 := Lib.hid hp1; have HS1 := Lib.hid hs1; have HP2 := Lib.hid hp2; have HS2 := Lib.hid hs2; have HPR := Lib.hid hprop; have HN := Lib.hid hno
  clear hp1 hs1 hp2 hs2 hprop hno
  go_enter Tryd.func15, Tryd.ntmps15
  go_wp2_with fail
  refine (must_calls m1 h1 s1 l1 _ HP1.out HS1.out HPR.out).mono ?_
  rintro e wa ⟨pa, va, rfl, ha1, ha2, ha3, ha4⟩
  have A1 := Aside0.mk ha1; have A2 := Aside0.mk ha2; have A3 := Aside0.mk ha3; have A4 := Aside0.mk ha4
  clear ha1 ha2 ha3 ha4
  go_wp2_with fail
  refine (must_calls m2 h2 s2 l2 _ HP2.out HS2.out (HPR.out.later A4.out)).mono ?_
  rintro e wb ⟨pb, vb, rfl, hb1, hb2, hb3, hb4⟩
  obtain ⟨Aa, ca, rfl, hca, hCa⟩ := Kd.R_reads (Kd.R_below A3.out hb4)
  obtain ⟨Ab, cb, rfl, hcb, hCb⟩ := Kd.R_reads hb3
  have HA := Aside0.mk (blk_below A2.out hb4); have HB := Aside0.mk hb2
  have BB := Aside0.mk (below_step A4.out hb4)
  have HCa := Aside0.mk hCa; have HCb := Aside0.mk hCb
  clear hb1 hb2 hb3 hb4 hCa hCb
  go_wp2_with fail
  refine (diff_calls pa pb _ _ _ _ _ _ _ _ Aa Ab ca cb l1 l2 _ HA.out HB.out hca hcb HCa.out HCb.out HP1.out.good.sizes HP2.out.good.sizes HP1.out.good.six HP2.out.good.six HN.out).mono ?_
  rintro e wc ⟨rfl, hc⟩
  have HC := Aside0.mk (below_step BB.out hc)
  clear hc
  go_wp2_with fail
  go_ret
  exact ⟨rfl, HC.out⟩
set_option maxHeartbeats 4000000 in
theorem diff7_calls (m1 h1 s1 m2 h2 s2 : ByteArray) (l1 l2 : List S42) (w : World) (hp1 : GoodP m1 h1 l1) (hs1 : s1.data.toList = writeL m1 h1 l1) (hp2 : GoodP m2 h2 l2) (hs2 : s2.data.toList = writeL m2 h2 l2) (hno : NoClash l1 l2) (hprop : Props w) :
    Calls Tryd.prog 7 #[.string s1, .string s2] w fun e w' => e = .returned (.string ⟨(diffB l1 l2).toArray⟩) ∧ Below w.heap.size w w' := by
  have HP1 := Lib.hid hp1; have HS1 := Lib.hid hs1; have HP2 := Lib.hid hp2; have HS2 := Lib.hid hs2; have HPR := Lib.hid hprop; have HN := Lib.hid hno
  clear hp1 hs1 hp2 hs2 hprop hno
  go_enter Tryd.func7, Tryd.ntmps7
  go_wp2_with fail
  refine (diff15_calls m1 h1 s1 m2 h2 s2 l1 l2 _ HP1.out HS1.out HP2.out HS2.out HN.out HPR.out).mono ?_
  rintro e wc ⟨rfl, hc⟩
  have HC := Aside0.mk hc
  clear hc
  go_wp2_with fail
  go_ret
  exact ⟨rfl, HC.out⟩
end Go.Proofs.YtmkbkpeccddejaaDoor
