/- The walk of the program's parsePattern at a pattern that is written: it hands back the pattern of just these pieces. -/
import Derived.Test.YtmkbkpeccddejaaDoorP0
import Derived.Deep.QuietTactic
import Derived.BigQuiet
import Derived.Deep.RegionHeld3
namespace Go.Proofs.YtmkbkpeccddejaaDoor
open Go.RowKit PFnDifference Go.Proofs.YtmkbkpeccddejaaDoorW.PrintWords Go.Proofs.YtmkbkpeccddejaaDoorW.PrintLast Go.Proofs.YtmkbkpeccddejaaDoorW.PrintMore
set_option linter.unusedVariables false
set_option linter.unusedSimpArgs false

set_option maxHeartbeats 4000000 in
set_option maxRecDepth 100000 in
theorem parse_conn (m h r0 r s : ByteArray) (l : List S42) (w : World) (hs : s.size ≤ 2147483647) (h0 : 0 < s.size) (hl : GoodL l) (hprop : Props w)
    (hm0 : 0 < m.size) (hm1 : m.size ≤ 100) (hms : m.size + 1 ≤ s.size) (hmm0 : ∀ k, k < m.size → (65 ≤ byt m k ∧ byt m k ≤ 90) ∨ (97 ≤ byt m k ∧ byt m k ≤ 122)) (hcon : (m.toList == [67, 79, 78, 78, 69, 67, 84]) = true)
    (ha : ∀ j, j < s.size → byt s j < 128) (hno : ∀ j, j < m.size → byt s j ≠ 32 ∧ byt s j ≠ 9) (hat : byt s m.size = 32)
    (e1 : s.extract 0 m.size = m) (e2 : s.extract (m.size + 1) s.size = r0) (hr0 : 0 < r0.size) (hr0s : r0.size ≤ s.size) (hra : byt r0 0 < 128) (h32 : (byt r0 0 == 32) = false) (h9 : (byt r0 0 == 9) = false)
    (e3 : r0.extract 0 h.size = h) (e4 : r0.extract h.size r0.size = r) (hi : h.size ≤ r0.size) (hr : r.data.toList = restL l) (hz : r.size ≤ s.size)
    (i1 : Lib.indexByte r0.data.toList 47 = h.size) (i2 : Lib.indexByte h.data.toList 123 = -1)
    (hcl : ∀ W : World, Calls Tryd.prog 39 #[.string r] W fun e w' => e = .returned (.string r) ∧ Below W.heap.size W w') :
    Calls Tryd.prog 31 #[.string s] w (ParsePost s m h l w) := by
  have Ha := Lib.hid ha; have Hno := Lib.hid hno; have Hat := Lib.hid hat; have I1 := Lib.hid i1; have I2 := Lib.hid i2; have HR := Lib.hid hr; have HL := Lib.hid hl; have HPROP := Lib.hid hprop
  have Hmm := Lib.hid hmm0; have Hra := Lib.hid hra; have H32 := Lib.hid h32; have H9 := Lib.hid h9; have Hcl := Lib.hid hcl
  have em := notEmpty_of_pos hm0
  clear ha hno hat i1 i2 hr hl hprop hmm0 hra h32 h9 hcl
  have hmf : ∀ (fn : Fn) (first cap : Array Value) (w : World), (Instr.makeFunc fn first cap).run Tryd.prog w = .ok (.func fn first cap) w := fun _ _ _ _ => rfl
  have hmm := @run_makeMap Tryd.prog
  go_enter_defers Tryd.func31, Tryd.ntmps31
  go_wp2_with fail
  refine (blankAt s m.size _ hs (by omega) Ha.out Hno.out Hat.out).mono ?_
  rintro e wa ⟨rfl, hba⟩
  go_wp2_with fail
  have q0 : (0 : Int) ≤ (m.size : Int) := by omega
  have q1 : (0 : Int) ≤ (m.size : Int) + 1 := by omega
  have q2 : (m.size : Int) + 1 ≤ (s.size : Int) := by omega
  have q3 : (m.size : Int) ≤ (s.size : Int) := by omega
  have q4 : m.size + 1 ≤ s.size := by omega
  have q5 : m.size ≤ s.size := by omega
  have q6 : ((m.size : Int) + 1).toNat = m.size + 1 := by omega
  have q7 : IntKind.i64.wrap ((m.size : Int) + 1) = (m.size : Int) + 1 := IntWalk.i64_in _ (by omega)
  refine wp_region_noPanic ?_
  go_region_with (go_at_call 36; refine (trimLeft_same r0 _ (by omega) hr0 Hra.out H32.out H9.out).mono ?_; rintro e wb ⟨rfl, hbb⟩)
  apply NoPanic.normal
  have hb1 : Below (w.alloc (.cells #[.nilIface] 64)).heap.size (w.alloc (.cells #[.nilIface] 64)) wb := below_step (pw_below_drewN hba 1) hbb
  clear hba hbb q0 q1 q2 q3 q4 q5 q6 q7
  go_wp2_with fail
  refine (validMethod_yes m _ hm1 em Hmm.out).mono ?_
  rintro e w2 ⟨rfl, rfl⟩
  go_wp2_with fail
  refine (slash_at r0 _ _ I1.out).mono ?_
  rintro e w2 ⟨rfl, rfl⟩
  go_wp2_with fail
  refine (brace_at h _ _ I2.out).mono ?_
  rintro e w2 ⟨rfl, rfl⟩
  go_wp2_with fail
  have HPBW : Aside0 (w.heap.size ≤ wb.heap.size) := ⟨by have := hb1.size; simp at this; omega⟩
  have HMW : Aside0 (w.heap.size ≤ (wb.heap.size + 1)) := ⟨by have := HPBW.out; omega⟩
  go_loopw [6] (fun v wr => ∃ (k : Nat) (q : ByteArray), v = .string q ∧ PR w wb.heap.size (wb.heap.size + 1) s m h l k q wr) (fun v _ => match v with | .string q => q.size | _ => 0)
  case atStart =>
    exact ⟨0, r, rfl, PR.start HR.out hz hb1 HPBW.out⟩
  case round =>
    obtain ⟨k, q, rfl, HP⟩ := hrel
    by_cases hkl : k < l.length
    · obtain ⟨x, hx⟩ : ∃ x, x = l[k] := ⟨_, rfl⟩
      have hget : l[k]? = some x := by rw [hx]; exact List.getElem?_eq_getElem hkl
      have hdrop : l.drop k = x :: l.drop (k + 1) := by rw [hx]; exact List.drop_eq_getElem_cons hkl
      obtain ⟨r1, sg, r2, f1, g1, f2, g2, f3, g3, z1, z0, z2⟩ := cut_facts q x (l.drop (k + 1)) (by rw [← hdrop]; exact HP.hr)
      have hqs : q.size ≤ s.size := HP.hz
      obtain ⟨hx16, hkind⟩ := HL.out.kind k x hget
      have hns := hkind.noslash
      obtain ⟨v, hpb, hrow⟩ := HP.hp
      obtain ⟨n, D, hn, hmap, hkn⟩ := HP.hM
      have HE := HP.hE
      have HB := Aside0.mk HP.hb
      have HV := Aside0.mk hrow
      have HPB := Aside0.mk hpb
      have HEA := Aside0.mk HE
      have HMAP := Aside0.mk hmap
      have HKN := Aside0.mk hkn
      have hnex : Hid (l.take (k + 1) = l.take k ++ [x]) := by rw [hx]; exact List.take_succ_eq_append_getElem hkl
      have HG1 := Lib.hid g1; have HG2 := Lib.hid g2; have HG3 := Lib.hid g3
      have HGET := Lib.hid hget
      have z2a : q.size ≤ r1.size + 1 := by omega
      have z2b : r1.size + 1 ≤ q.size := by omega
      clear hx hget hdrop g1 g2 g3 hrow HP z2 hmap hkn
      cases hkind with
      | slash hS h1 h2 hlast =>
        have hnil : l.drop (k + 1) = [] := List.drop_eq_nil_of_le (by omega)
        have hz1 : r1.size = 0 := by rw [Lib.size_eq, HG1.out, hnil, restL_nil, segL_slash hS h2]; rfl
        have hr2 : r2.data.toList = [] := by rw [HG3.out, hnil, restL_nil]
        have hz2 : r2.size ≤ 0 := by rw [Lib.size_eq, hr2]; simp
        have hxe : (⟨⟨#[]⟩, true, true⟩ : S42) = x := s42_eq (str_eq (by rw [hS])) h1.symm h2.symm
        have HX := Lib.hid hxe
        have n0 : ((r1.size : Int) == 0) = true := beq_iff_eq.2 (by omega)
        have hlk : l.length ≤ k + 1 := by omega
        clear hxe hS h1 h2 hnil hr2 hlast z1 hz1 hns
        have cE : wr.cell? ⟨w.heap.size, 0, none⟩ = some .nilIface := (blk_cell HE 0).trans rfl
        have cp : wr.cell? ⟨wb.heap.size, 3, none⟩ = some v := (blk_cell hpb 3).trans rfl
        have fp := blk_frozen hpb 3
        have fE := blk_frozen HE 0
        go_wp2_with ((with_reducible refine gate_builtin (b := .append) (xs := #[.tmp 114, .tmp 116]) rfl ?_); at_builtin; refine Kd.R_append k42 (w0 := w) w.heap.size rfl (.tmp 114) (.tmp 116) 58 62 (.agg #[(.string ⟨#[]⟩), (.bool false), (.bool false)]) 24 rfl Tryd.underlying58 info62 rfl (by decide) (by omega) v (l.take k) (⟨⟨#[]⟩, true, true⟩ : S42) [.string ⟨#[]⟩, .bool true, .bool true] (fun _ => True) (fun _ => False) rfl (by first | (go_simp; done) | (go_simp; rfl)) ?aP (fun _ hk => hk.elim) ?aF ?aO ?aB ?aS ?aL ?_; (case aP => exact k42_mkM _ _ _ (⟨⟨#[]⟩, true, true⟩ : S42)); (case aF => exact (fun _ _ => trivial)); (case aO => exact HV.out); (case aB => exact HB.out); (case aS => exact (below_size HB.out)); (case aL => have := List.length_take_le k l; have := HL.out.six; omega); intro v2 w2 ho hb2 hg2 hat2; rw [HX.out, ← hnex.out] at ho; obtain ⟨A2, n2, c2, ev⟩ := slice_form ho; subst ev; have p2 := blk_grown HPB.out hg2 (Kd.R_ne HV.out HPB.out (by decide)); have e2 := blk_grown HEA.out hg2 (Kd.R_ne HV.out HEA.out (by decide)); have cp2 : w2.cell? ⟨wb.heap.size, 3, none⟩ = some v := (blk_cell p2 3).trans rfl; have fp2 := blk_frozen p2 3; have ce2 : w2.cell? ⟨w.heap.size, 0, none⟩ = some .nilIface := (blk_cell e2 0).trans rfl; have fe2 := blk_frozen e2 0; have HO2 := Aside0.mk ho; have HB2 := Aside0.mk hb2; have HG2' := Aside0.mk hg2; clear ho hb2 hg2 hat2 p2 e2)
        refine leaves_cons (f := 34) (args := #[.pointer (some ⟨w.heap.size, 0, none⟩)]) (by simp) (by simp [go_sem]) ?_
        have cEE := cell_nil (cell_far3 (g := wb.heap.size) (u := .slice A2 n2 c2) ce2)
        refine (deferred_nothing w.heap.size .returning _ cEE).mono ?_
        rintro e u' w'' ⟨rfl, rfl, rfl⟩
        exact ⟨_, by simp [results, Tryd.results31, go_sem, cEE], PR.done (PR.next (by omega) HG3.out (by omega) HEA.out HPB.out HV.out (by omega) HMAP.out (by rw [hnex.out]; exact knows_more HKN.out) HG2'.out HO2.out HB2.out HPBW.out) hlk HPBW.out⟩
      | multi hN h1 h2 hlast =>
        have hnil : l.drop (k + 1) = [] := List.drop_eq_nil_of_le (by omega)
        have hidx : Lib.indexByte r1.data.toList 47 = -1 := by rw [hnil] at HG1; exact slash_end HG1.out hns
        have hr2 : r2.data.toList = [] := by rw [HG3.out, hnil, restL_nil]
        have hz2 : r2.size = 0 := by rw [Lib.size_eq, hr2]; rfl
        have hsr : sg = r1 := str_eq (by rw [HG2.out, HG1.out, hnil, restL_nil, List.append_nil])
        subst hsr
        have hre : r2 = ByteArray.empty := str_eq (by rw [hr2]; rfl)
        subst hre
        clear hnil hr2
        obtain ⟨nm, hnm⟩ : ∃ nm : ByteArray, nm.data.toList = x.f0.data.toList ++ [46, 46, 46] := ⟨⟨(x.f0.data.toList ++ [46, 46, 46]).toArray⟩, by simp⟩
        have hsgl : sg.data.toList = 123 :: (nm.data.toList ++ [125]) := by rw [HG2.out, segL_multi hN h2, hnm]; simp
        have hnz : nm.size ≤ 2147483647 := by rw [Lib.size_eq, hnm, List.length_append, ← Lib.size_eq]; simp; omega
        have h36 : (nm.toList == [36]) = false := by rw [Lib.toList_data, hnm]; have := hN.ne; cases hh : x.f0.data.toList with | nil => exact absurd hh this | cons a t => simp
        have Hnm := Lib.hid hnm
        obtain ⟨b1, b2, b3, b4⟩ := brace_facts sg nm hsgl
        have hx125 := byt_at sg (sg.size - 1)
        obtain ⟨c1, hc1⟩ : ∃ c, c = byt sg (sg.size - 1) := ⟨_, rfl⟩
        have n125 : (c1 != 125) = false := bne_eq_false_iff_eq.2 (hc1.trans b2)
        have e125 : (c1 == 125) = true := beq_iff_eq.2 (hc1.trans b2)
        rw [← hc1] at hx125
        have hr1 : 0 < sg.size := by omega
        have s1 : (0 : Int) ≤ (sg.size : Int) := by omega
        have s2 : (sg.size : Int) ≤ (sg.size : Int) := by omega
        have s3 : sg.size ≤ sg.size := by omega
        have s4 : (0 : Int) ≤ (sg.size : Int) - 1 := by omega
        have s5 : (1 : Int) ≤ (sg.size : Int) - 1 := by omega
        have s6 : 1 ≤ sg.size - 1 := by omega
        have s7 : sg.size - 1 < sg.size := by omega
        have Hidx := Lib.hid hidx; have Hbr := Lib.hid b4
        have z3 : ByteArray.empty.size < q.size := by omega
        have n0 : ((sg.size : Int) == 0) = false := beq_eq_false_iff_ne.2 (by omega)
        have hxe : (⟨x.f0, true, true⟩ : S42) = x := s42_eq rfl h1.symm h2.symm
        have HX := Lib.hid hxe
        have he : x.f0.toList.isEmpty = false := notEmpty_of_pos hN.1
        have m0 : ((ByteArray.empty.size : Int) != 0) = false := bne_eq_false_iff_eq.2 (by omega)
        have m1 : ((ByteArray.empty.size : Int) == 0) = true := beq_iff_eq.2 (by omega)
        have HNX := Lib.hid hN; have H1X := Lib.hid h1
        have hno : D.atKey (.string x.f0.data.toList) (.lit (.bool false)) = .lit (.bool false) := HKN.out x.f0 (fun y hy hy1 => by
          obtain ⟨j, hj, hy'⟩ := List.mem_take_iff_getElem.1 hy
          have hj2 : j < k := by omega
          exact fun e => HL.out.apart k j x y hj2 HGET.out (by rw [List.getElem?_eq_getElem (by omega), hy']) H1X.out hy1 e.symm)
        have HNO := Lib.hid hno
        clear hidx hsgl hns hxe hN h1 h2 hc1 b1 b2 b4 z1 hnm hno hz2 hlast
        have cE : wr.cell? ⟨w.heap.size, 0, none⟩ = some .nilIface := (blk_cell HE 0).trans rfl
        have cp : wr.cell? ⟨wb.heap.size, 3, none⟩ = some v := (blk_cell hpb 3).trans rfl
        have fp := blk_frozen hpb 3
        have fE := blk_frozen HE 0
        go_wp2_with fail
        refine (slash_at sg _ _ Hidx.out).mono ?_
        rintro e wq ⟨rfl, rfl⟩
        go_wp2_with fail
        go_quiet (fail)
        go_wp2_with fail
        refine (brace_at sg _ _ Hbr.out).mono ?_
        rintro e wq ⟨rfl, rfl⟩
        go_wp2_with fail
        refine (cut_yes nm x.f0 _ hnz Hnm.out).mono ?_
        rintro e wq ⟨rfl, rfl⟩
        go_wp2_with fail
        refine (validName_yes x.f0 _ (by omega) HNX.out.1 HNX.out.2 ((HPROP.out.later HB.out).later (pw_below_drewN (Below.refl _ _) nq))).mono ?_
        rintro e w3 ⟨rfl, hb3⟩
        have HB3 := Aside0.mk hb3
        have VD := Aside0.mk (Kd.R_below (Kd.R_drewN HV.out nq) HB3.out)
        have PBD := Aside0.mk (blk_below (blk_drewN HPB.out nq) HB3.out)
        have EAD := Aside0.mk (blk_below (blk_drewN HEA.out nq) HB3.out)
        have MAPD := Aside0.mk (map_below (map_drewN HMAP.out nq) HB3.out)
        have HB4 := Aside0.mk (below_step (pw_below_drewN HB.out nq) HB3.out)
        have cp3 : w3.cell? ⟨wb.heap.size, 3, none⟩ = some v := (blk_cell PBD.out 3).trans rfl
        have fp3 := blk_frozen PBD.out 3
        clear hb3
        go_wp2_with (first | (at_lookup; refine wpList_lookup_no _ rfl (.tmp 199) (.tmp 200) rfl (wb.heap.size + 1) n D rfl MAPD.out x.f0 rfl (by unfold maxLen; omega) HNO.out ?_) | (at_mapUpdate; refine wpList_put _ rfl (.tmp 203) (.tmp 204) rfl (wb.heap.size + 1) n D rfl MAPD.out (by have := HL.out.six; unfold maxLen; omega) x.f0 rfl (by unfold maxLen; omega) ?_; intro w4 hown4 hg4; have HM4 := Aside0.mk hown4; have PB4 := Aside0.mk (blk_grown PBD.out hg4 (fun e => map_blk MAPD.out PBD.out (Option.some.inj e).symm)); have EA4 := Aside0.mk (blk_grown EAD.out hg4 (fun e => map_blk MAPD.out EAD.out (Option.some.inj e).symm)); have V4 := Aside0.mk (row_map VD.out hg4 MAPD.out); have HB5 := Aside0.mk (below_map HB4.out hg4 HMW.out); have cp4 : w4.cell? ⟨wb.heap.size, 3, none⟩ = some v := (blk_cell PB4.out 3).trans rfl; have fp4 := blk_frozen PB4.out 3; clear hown4 hg4) | ((with_reducible refine gate_builtin (b := .append) (xs := #[.tmp 209, .tmp 213]) rfl ?_); at_builtin; refine Kd.R_append k42 (w0 := w) w.heap.size rfl (.tmp 209) (.tmp 213) 58 62 (.agg #[(.string ⟨#[]⟩), (.bool false), (.bool false)]) 24 rfl Tryd.underlying58 info62 rfl (by decide) (by omega) v (l.take k) (⟨x.f0, true, true⟩ : S42) [.string x.f0, .bool true, .bool true] (fun _ => True) (fun _ => False) rfl (by first | (go_simp; done) | (go_simp; rfl)) ?aP (fun _ hk => hk.elim) ?aF ?aO ?aB ?aS ?aL ?_; (case aP => exact k42_mkM _ _ _ (⟨x.f0, true, true⟩ : S42)); (case aF => exact (fun _ _ => trivial)); (case aO => exact V4.out); (case aB => exact HB5.out); (case aS => exact (below_size HB5.out)); (case aL => have := List.length_take_le k l; have := HL.out.six; omega); intro v2 w2 ho hb2 hg2 hat2; rw [HX.out, ← hnex.out] at ho; obtain ⟨A2, n2, c2, ev⟩ := slice_form ho; subst ev; have p2 := blk_grown PB4.out hg2 (Kd.R_ne V4.out PB4.out (by decide)); have e2 := blk_grown EA4.out hg2 (Kd.R_ne V4.out EA4.out (by decide)); have cp2 : w2.cell? ⟨wb.heap.size, 3, none⟩ = some v := (blk_cell p2 3).trans rfl; have fp2 := blk_frozen p2 3; have ce2 : w2.cell? ⟨w.heap.size, 0, none⟩ = some .nilIface := (blk_cell e2 0).trans rfl; have fe2 := blk_frozen e2 0; have HO2 := Aside0.mk ho; have HB2 := Aside0.mk hb2; have HG2' := Aside0.mk hg2; clear ho hb2 hg2 hat2 p2 e2))
        go_roundw
        case rel => exact ⟨k + 1, ByteArray.empty, rfl, PR.next (by omega) HG3.out (by omega) EA4.out PB4.out V4.out (by omega) HM4.out (by rw [hnex.out]; exact knows_put (x := x) HKN.out H1X.out) HG2'.out HO2.out HB2.out HPBW.out⟩
        case measure => show ByteArray.empty.size < q.size; omega
      | wild hN h1 h2 =>
        by_cases hend : k + 1 < l.length
        · have hidx : Lib.indexByte r1.data.toList 47 = sg.size := by
            have hd : l.drop (k + 1) = l[k + 1] :: l.drop (k + 1 + 1) := List.drop_eq_getElem_cons hend
            rw [hd] at HG1
            exact slash_mid HG1.out HG2.out hns
          obtain ⟨nm, hnm⟩ : ∃ nm : ByteArray, nm = x.f0 := ⟨_, rfl⟩
          have hsgl : sg.data.toList = 123 :: (nm.data.toList ++ [125]) := by rw [HG2.out, segL_wild h1 h2, hnm]
          have hnz : nm.size ≤ 2147483647 := by rw [hnm]; omega
          have h36 : (nm.toList == [36]) = false := by rw [beq_eq_false_iff_ne, Lib.toList_data, hnm]; exact fun e => hN.no (c := 36) (.inr (.inr (.inl rfl))) (by rw [e]; simp)
          have Hnm := Lib.hid hnm
          obtain ⟨b1, b2, b3, b4⟩ := brace_facts sg nm hsgl
          have hx125 := byt_at sg (sg.size - 1)
          obtain ⟨c1, hc1⟩ : ∃ c, c = byt sg (sg.size - 1) := ⟨_, rfl⟩
          have n125 : (c1 != 125) = false := bne_eq_false_iff_eq.2 (hc1.trans b2)
          have e125 : (c1 == 125) = true := beq_iff_eq.2 (hc1.trans b2)
          rw [← hc1] at hx125
          have hr1 : 0 < r1.size := by omega
          have s1 : (0 : Int) ≤ (sg.size : Int) := by omega
          have s2 : (sg.size : Int) ≤ (r1.size : Int) := by omega
          have s3 : sg.size ≤ r1.size := by omega
          have s4 : (0 : Int) ≤ (sg.size : Int) - 1 := by omega
          have s5 : (1 : Int) ≤ (sg.size : Int) - 1 := by omega
          have s6 : 1 ≤ sg.size - 1 := by omega
          have s7 : sg.size - 1 < sg.size := by omega
          have Hidx := Lib.hid hidx; have Hbr := Lib.hid b4
          have z3 : r2.size < q.size := by omega
          have n0 : ((r1.size : Int) == 0) = false := beq_eq_false_iff_ne.2 (by omega)
          have hxe : (⟨x.f0, true, false⟩ : S42) = x := s42_eq rfl h1.symm h2.symm
          have HX := Lib.hid hxe
          have he : x.f0.toList.isEmpty = false := notEmpty_of_pos hN.1
          have HNX := Lib.hid hN; have H1X := Lib.hid h1
          have hno : D.atKey (.string x.f0.data.toList) (.lit (.bool false)) = .lit (.bool false) := HKN.out x.f0 (fun y hy hy1 => by
            obtain ⟨j, hj, hy'⟩ := List.mem_take_iff_getElem.1 hy
            have hj2 : j < k := by omega
            exact fun e => HL.out.apart k j x y hj2 HGET.out (by rw [List.getElem?_eq_getElem (by omega), hy']) H1X.out hy1 e.symm)
          have HNO := Lib.hid hno
          clear hidx hsgl hns hxe hN h1 h2 hc1 b1 b2 b4 z1 hnm hno
          have cE : wr.cell? ⟨w.heap.size, 0, none⟩ = some .nilIface := (blk_cell HE 0).trans rfl
          have cp : wr.cell? ⟨wb.heap.size, 3, none⟩ = some v := (blk_cell hpb 3).trans rfl
          have fp := blk_frozen hpb 3
          have fE := blk_frozen HE 0
          go_wp2_with fail
          refine (slash_at r1 _ _ Hidx.out).mono ?_
          rintro e wq ⟨rfl, rfl⟩
          go_wp2_with fail
          go_quiet (fail)
          go_wp2_with fail
          refine (brace_at sg _ _ Hbr.out).mono ?_
          rintro e wq ⟨rfl, rfl⟩
          go_wp2_with fail
          refine (cut_no nm _ hnz (by rw [Hnm.out]; exact HNX.out)).mono ?_
          rintro e wq ⟨rfl, rfl⟩
          obtain rfl : nm = x.f0 := Hnm.out
          go_wp2_with fail
          refine (validName_yes x.f0 _ (by omega) HNX.out.1 HNX.out.2 ((HPROP.out.later HB.out).later (pw_below_drewN (Below.refl _ _) nq))).mono ?_
          rintro e w3 ⟨rfl, hb3⟩
          have HB3 := Aside0.mk hb3
          have VD := Aside0.mk (Kd.R_below (Kd.R_drewN HV.out nq) HB3.out)
          have PBD := Aside0.mk (blk_below (blk_drewN HPB.out nq) HB3.out)
          have EAD := Aside0.mk (blk_below (blk_drewN HEA.out nq) HB3.out)
          have MAPD := Aside0.mk (map_below (map_drewN HMAP.out nq) HB3.out)
          have HB4 := Aside0.mk (below_step (pw_below_drewN HB.out nq) HB3.out)
          have cp3 : w3.cell? ⟨wb.heap.size, 3, none⟩ = some v := (blk_cell PBD.out 3).trans rfl
          have fp3 := blk_frozen PBD.out 3
          clear hb3
          go_wp2_with (first | (at_lookup; refine wpList_lookup_no _ rfl (.tmp 199) (.tmp 200) rfl (wb.heap.size + 1) n D rfl MAPD.out x.f0 rfl (by unfold maxLen; omega) HNO.out ?_) | (at_mapUpdate; refine wpList_put _ rfl (.tmp 203) (.tmp 204) rfl (wb.heap.size + 1) n D rfl MAPD.out (by have := HL.out.six; unfold maxLen; omega) x.f0 rfl (by unfold maxLen; omega) ?_; intro w4 hown4 hg4; have HM4 := Aside0.mk hown4; have PB4 := Aside0.mk (blk_grown PBD.out hg4 (fun e => map_blk MAPD.out PBD.out (Option.some.inj e).symm)); have EA4 := Aside0.mk (blk_grown EAD.out hg4 (fun e => map_blk MAPD.out EAD.out (Option.some.inj e).symm)); have V4 := Aside0.mk (row_map VD.out hg4 MAPD.out); have HB5 := Aside0.mk (below_map HB4.out hg4 HMW.out); have cp4 : w4.cell? ⟨wb.heap.size, 3, none⟩ = some v := (blk_cell PB4.out 3).trans rfl; have fp4 := blk_frozen PB4.out 3; clear hown4 hg4) | ((with_reducible refine gate_builtin (b := .append) (xs := #[.tmp 209, .tmp 213]) rfl ?_); at_builtin; refine Kd.R_append k42 (w0 := w) w.heap.size rfl (.tmp 209) (.tmp 213) 58 62 (.agg #[(.string ⟨#[]⟩), (.bool false), (.bool false)]) 24 rfl Tryd.underlying58 info62 rfl (by decide) (by omega) v (l.take k) (⟨x.f0, true, false⟩ : S42) [.string x.f0, .bool true, .bool false] (fun _ => True) (fun _ => False) rfl (by first | (go_simp; done) | (go_simp; rfl)) ?aP (fun _ hk => hk.elim) ?aF ?aO ?aB ?aS ?aL ?_; (case aP => exact k42_mkM _ _ _ (⟨x.f0, true, false⟩ : S42)); (case aF => exact (fun _ _ => trivial)); (case aO => exact V4.out); (case aB => exact HB5.out); (case aS => exact (below_size HB5.out)); (case aL => have := List.length_take_le k l; have := HL.out.six; omega); intro v2 w2 ho hb2 hg2 hat2; rw [HX.out, ← hnex.out] at ho; obtain ⟨A2, n2, c2, ev⟩ := slice_form ho; subst ev; have p2 := blk_grown PB4.out hg2 (Kd.R_ne V4.out PB4.out (by decide)); have e2 := blk_grown EA4.out hg2 (Kd.R_ne V4.out EA4.out (by decide)); have cp2 : w2.cell? ⟨wb.heap.size, 3, none⟩ = some v := (blk_cell p2 3).trans rfl; have fp2 := blk_frozen p2 3; have ce2 : w2.cell? ⟨w.heap.size, 0, none⟩ = some .nilIface := (blk_cell e2 0).trans rfl; have fe2 := blk_frozen e2 0; have HO2 := Aside0.mk ho; have HB2 := Aside0.mk hb2; have HG2' := Aside0.mk hg2; clear ho hb2 hg2 hat2 p2 e2))
          go_roundw
          case rel => exact ⟨k + 1, r2, rfl, PR.next (by omega) HG3.out (by omega) EA4.out PB4.out V4.out (by omega) HM4.out (by rw [hnex.out]; exact knows_put (x := x) HKN.out H1X.out) HG2'.out HO2.out HB2.out HPBW.out⟩
          case measure => show r2.size < q.size; omega
        · have hnil : l.drop (k + 1) = [] := List.drop_eq_nil_of_le (by omega)
          have hidx : Lib.indexByte r1.data.toList 47 = -1 := by rw [hnil] at HG1; exact slash_end HG1.out hns
          have hr2 : r2.data.toList = [] := by rw [HG3.out, hnil, restL_nil]
          have hz2 : r2.size = 0 := by rw [Lib.size_eq, hr2]; rfl
          have hsr : sg = r1 := str_eq (by rw [HG2.out, HG1.out, hnil, restL_nil, List.append_nil])
          subst hsr
          have hre : r2 = ByteArray.empty := str_eq (by rw [hr2]; rfl)
          subst hre
          clear hnil hr2
          obtain ⟨nm, hnm⟩ : ∃ nm : ByteArray, nm = x.f0 := ⟨_, rfl⟩
          have hsgl : sg.data.toList = 123 :: (nm.data.toList ++ [125]) := by rw [HG2.out, segL_wild h1 h2, hnm]
          have hnz : nm.size ≤ 2147483647 := by rw [hnm]; omega
          have h36 : (nm.toList == [36]) = false := by rw [beq_eq_false_iff_ne, Lib.toList_data, hnm]; exact fun e => hN.no (c := 36) (.inr (.inr (.inl rfl))) (by rw [e]; simp)
          have Hnm := Lib.hid hnm
          obtain ⟨b1, b2, b3, b4⟩ := brace_facts sg nm hsgl
          have hx125 := byt_at sg (sg.size - 1)
          obtain ⟨c1, hc1⟩ : ∃ c, c = byt sg (sg.size - 1) := ⟨_, rfl⟩
          have n125 : (c1 != 125) = false := bne_eq_false_iff_eq.2 (hc1.trans b2)
          have e125 : (c1 == 125) = true := beq_iff_eq.2 (hc1.trans b2)
          rw [← hc1] at hx125
          have hr1 : 0 < sg.size := by omega
          have s1 : (0 : Int) ≤ (sg.size : Int) := by omega
          have s2 : (sg.size : Int) ≤ (sg.size : Int) := by omega
          have s3 : sg.size ≤ sg.size := by omega
          have s4 : (0 : Int) ≤ (sg.size : Int) - 1 := by omega
          have s5 : (1 : Int) ≤ (sg.size : Int) - 1 := by omega
          have s6 : 1 ≤ sg.size - 1 := by omega
          have s7 : sg.size - 1 < sg.size := by omega
          have Hidx := Lib.hid hidx; have Hbr := Lib.hid b4
          have z3 : ByteArray.empty.size < q.size := by omega
          have n0 : ((sg.size : Int) == 0) = false := beq_eq_false_iff_ne.2 (by omega)
          have hxe : (⟨x.f0, true, false⟩ : S42) = x := s42_eq rfl h1.symm h2.symm
          have HX := Lib.hid hxe
          have he : x.f0.toList.isEmpty = false := notEmpty_of_pos hN.1
          have HNX := Lib.hid hN; have H1X := Lib.hid h1
          have hno : D.atKey (.string x.f0.data.toList) (.lit (.bool false)) = .lit (.bool false) := HKN.out x.f0 (fun y hy hy1 => by
            obtain ⟨j, hj, hy'⟩ := List.mem_take_iff_getElem.1 hy
            have hj2 : j < k := by omega
            exact fun e => HL.out.apart k j x y hj2 HGET.out (by rw [List.getElem?_eq_getElem (by omega), hy']) H1X.out hy1 e.symm)
          have HNO := Lib.hid hno
          clear hidx hsgl hns hxe hN h1 h2 hc1 b1 b2 b4 z1 hnm hno hz2
          have cE : wr.cell? ⟨w.heap.size, 0, none⟩ = some .nilIface := (blk_cell HE 0).trans rfl
          have cp : wr.cell? ⟨wb.heap.size, 3, none⟩ = some v := (blk_cell hpb 3).trans rfl
          have fp := blk_frozen hpb 3
          have fE := blk_frozen HE 0
          go_wp2_with fail
          refine (slash_at sg _ _ Hidx.out).mono ?_
          rintro e wq ⟨rfl, rfl⟩
          go_wp2_with fail
          go_quiet (fail)
          go_wp2_with fail
          refine (brace_at sg _ _ Hbr.out).mono ?_
          rintro e wq ⟨rfl, rfl⟩
          go_wp2_with fail
          refine (cut_no nm _ hnz (by rw [Hnm.out]; exact HNX.out)).mono ?_
          rintro e wq ⟨rfl, rfl⟩
          obtain rfl : nm = x.f0 := Hnm.out
          go_wp2_with fail
          refine (validName_yes x.f0 _ (by omega) HNX.out.1 HNX.out.2 ((HPROP.out.later HB.out).later (pw_below_drewN (Below.refl _ _) nq))).mono ?_
          rintro e w3 ⟨rfl, hb3⟩
          have HB3 := Aside0.mk hb3
          have VD := Aside0.mk (Kd.R_below (Kd.R_drewN HV.out nq) HB3.out)
          have PBD := Aside0.mk (blk_below (blk_drewN HPB.out nq) HB3.out)
          have EAD := Aside0.mk (blk_below (blk_drewN HEA.out nq) HB3.out)
          have MAPD := Aside0.mk (map_below (map_drewN HMAP.out nq) HB3.out)
          have HB4 := Aside0.mk (below_step (pw_below_drewN HB.out nq) HB3.out)
          have cp3 : w3.cell? ⟨wb.heap.size, 3, none⟩ = some v := (blk_cell PBD.out 3).trans rfl
          have fp3 := blk_frozen PBD.out 3
          clear hb3
          go_wp2_with (first | (at_lookup; refine wpList_lookup_no _ rfl (.tmp 199) (.tmp 200) rfl (wb.heap.size + 1) n D rfl MAPD.out x.f0 rfl (by unfold maxLen; omega) HNO.out ?_) | (at_mapUpdate; refine wpList_put _ rfl (.tmp 203) (.tmp 204) rfl (wb.heap.size + 1) n D rfl MAPD.out (by have := HL.out.six; unfold maxLen; omega) x.f0 rfl (by unfold maxLen; omega) ?_; intro w4 hown4 hg4; have HM4 := Aside0.mk hown4; have PB4 := Aside0.mk (blk_grown PBD.out hg4 (fun e => map_blk MAPD.out PBD.out (Option.some.inj e).symm)); have EA4 := Aside0.mk (blk_grown EAD.out hg4 (fun e => map_blk MAPD.out EAD.out (Option.some.inj e).symm)); have V4 := Aside0.mk (row_map VD.out hg4 MAPD.out); have HB5 := Aside0.mk (below_map HB4.out hg4 HMW.out); have cp4 : w4.cell? ⟨wb.heap.size, 3, none⟩ = some v := (blk_cell PB4.out 3).trans rfl; have fp4 := blk_frozen PB4.out 3; clear hown4 hg4) | ((with_reducible refine gate_builtin (b := .append) (xs := #[.tmp 209, .tmp 213]) rfl ?_); at_builtin; refine Kd.R_append k42 (w0 := w) w.heap.size rfl (.tmp 209) (.tmp 213) 58 62 (.agg #[(.string ⟨#[]⟩), (.bool false), (.bool false)]) 24 rfl Tryd.underlying58 info62 rfl (by decide) (by omega) v (l.take k) (⟨x.f0, true, false⟩ : S42) [.string x.f0, .bool true, .bool false] (fun _ => True) (fun _ => False) rfl (by first | (go_simp; done) | (go_simp; rfl)) ?aP (fun _ hk => hk.elim) ?aF ?aO ?aB ?aS ?aL ?_; (case aP => exact k42_mkM _ _ _ (⟨x.f0, true, false⟩ : S42)); (case aF => exact (fun _ _ => trivial)); (case aO => exact V4.out); (case aB => exact HB5.out); (case aS => exact (below_size HB5.out)); (case aL => have := List.length_take_le k l; have := HL.out.six; omega); intro v2 w2 ho hb2 hg2 hat2; rw [HX.out, ← hnex.out] at ho; obtain ⟨A2, n2, c2, ev⟩ := slice_form ho; subst ev; have p2 := blk_grown PB4.out hg2 (Kd.R_ne V4.out PB4.out (by decide)); have e2 := blk_grown EA4.out hg2 (Kd.R_ne V4.out EA4.out (by decide)); have cp2 : w2.cell? ⟨wb.heap.size, 3, none⟩ = some v := (blk_cell p2 3).trans rfl; have fp2 := blk_frozen p2 3; have ce2 : w2.cell? ⟨w.heap.size, 0, none⟩ = some .nilIface := (blk_cell e2 0).trans rfl; have fe2 := blk_frozen e2 0; have HO2 := Aside0.mk ho; have HB2 := Aside0.mk hb2; have HG2' := Aside0.mk hg2; clear ho hb2 hg2 hat2 p2 e2))
          go_roundw
          case rel => exact ⟨k + 1, ByteArray.empty, rfl, PR.next (by omega) HG3.out (by omega) EA4.out PB4.out V4.out (by omega) HM4.out (by rw [hnex.out]; exact knows_put (x := x) HKN.out H1X.out) HG2'.out HO2.out HB2.out HPBW.out⟩
          case measure => show ByteArray.empty.size < q.size; omega
      | stop hS h1 h2 hlast =>
        have hnil : l.drop (k + 1) = [] := List.drop_eq_nil_of_le (by omega)
        have hidx : Lib.indexByte r1.data.toList 47 = -1 := by rw [hnil] at HG1; exact slash_end HG1.out hns
        have hr2 : r2.data.toList = [] := by rw [HG3.out, hnil, restL_nil]
        have hz2 : r2.size = 0 := by rw [Lib.size_eq, hr2]; rfl
        have hsr : sg = r1 := str_eq (by rw [HG2.out, HG1.out, hnil, restL_nil, List.append_nil])
        subst hsr
        have hre : r2 = ByteArray.empty := str_eq (by rw [hr2]; rfl)
        subst hre
        clear hnil hr2
        have hsgl : sg.data.toList = 123 :: ((⟨#[36]⟩ : ByteArray).data.toList ++ [125]) := by rw [HG2.out, segL_stop hS h1 h2]; rfl
        obtain ⟨b1, b2, b3, b4⟩ := brace_facts sg ⟨#[36]⟩ hsgl
        have hx125 := byt_at sg (sg.size - 1)
        obtain ⟨c1, hc1⟩ : ∃ c, c = byt sg (sg.size - 1) := ⟨_, rfl⟩
        have n125 : (c1 != 125) = false := bne_eq_false_iff_eq.2 (hc1.trans b2)
        have e125 : (c1 == 125) = true := beq_iff_eq.2 (hc1.trans b2)
        rw [← hc1] at hx125
        have hr1 : 0 < sg.size := by omega
        have s1 : (0 : Int) ≤ (sg.size : Int) := by omega
        have s2 : (sg.size : Int) ≤ (sg.size : Int) := by omega
        have s3 : sg.size ≤ sg.size := by omega
        have s4 : (0 : Int) ≤ (sg.size : Int) - 1 := by omega
        have s5 : (1 : Int) ≤ (sg.size : Int) - 1 := by omega
        have s6 : 1 ≤ sg.size - 1 := by omega
        have s7 : sg.size - 1 < sg.size := by omega
        have Hidx := Lib.hid hidx; have Hbr := Lib.hid b4
        have z3 : ByteArray.empty.size < q.size := by omega
        have n0 : ((sg.size : Int) == 0) = false := beq_eq_false_iff_ne.2 (by omega)
        have hxe : (⟨⟨#[47]⟩, false, false⟩ : S42) = x := s42_eq (str_eq (by rw [hS])) h1.symm h2.symm
        have HX := Lib.hid hxe
        have hlk : l.length ≤ k + 1 := by omega
        have m0 : ((ByteArray.empty.size : Int) != 0) = false := bne_eq_false_iff_eq.2 (by omega)
        have m1 : ((ByteArray.empty.size : Int) == 0) = true := beq_iff_eq.2 (by omega)
        clear hidx hsgl hns hxe hS h1 h2 hlast hc1 b1 b2 b4 hz2 z1
        have cE : wr.cell? ⟨w.heap.size, 0, none⟩ = some .nilIface := (blk_cell HE 0).trans rfl
        have cp : wr.cell? ⟨wb.heap.size, 3, none⟩ = some v := (blk_cell hpb 3).trans rfl
        have fp := blk_frozen hpb 3
        have fE := blk_frozen HE 0
        go_wp2_with fail
        refine (slash_at sg _ _ Hidx.out).mono ?_
        rintro e wq ⟨rfl, rfl⟩
        go_wp2_with fail
        go_quiet (fail)
        go_wp2_with fail
        refine (brace_at sg _ _ Hbr.out).mono ?_
        rintro e wq ⟨rfl, rfl⟩
        have VD := Aside0.mk (Kd.R_drewN HV.out nq)
        have PBD := Aside0.mk (blk_drewN HPB.out nq)
        go_wp2_with ((with_reducible refine gate_builtin (b := .append) (xs := #[.tmp 174, .tmp 176]) rfl ?_); at_builtin; refine Kd.R_append k42 (w0 := w) w.heap.size rfl (.tmp 174) (.tmp 176) 58 62 (.agg #[(.string ⟨#[]⟩), (.bool false), (.bool false)]) 24 rfl Tryd.underlying58 info62 rfl (by decide) (by omega) v (l.take k) (⟨⟨#[47]⟩, false, false⟩ : S42) [.string ⟨#[47]⟩, .bool false, .bool false] (fun _ => True) (fun _ => False) rfl (by first | (go_simp; done) | (go_simp; rfl)) ?aP (fun _ hk => hk.elim) ?aF ?aO ?aB ?aS ?aL ?_; (case aP => exact k42_mkM _ _ _ (⟨⟨#[47]⟩, false, false⟩ : S42)); (case aF => exact (fun _ _ => trivial)); (case aO => exact VD.out); (case aB => exact (pw_below_drewN HB.out nq)); (case aS => exact (below_size (pw_below_drewN HB.out nq))); (case aL => have := List.length_take_le k l; have := HL.out.six; omega); intro v2 w2 ho hb2 hg2 hat2; rw [HX.out, ← hnex.out] at ho; obtain ⟨A2, n2, c2, ev⟩ := slice_form ho; subst ev; have p2 := blk_grown PBD.out hg2 (Kd.R_ne VD.out PBD.out (by decide)); have e2 := blk_grown (blk_drewN HEA.out nq) hg2 (Kd.R_ne VD.out (blk_drewN HEA.out nq) (by decide)); have cp2 : w2.cell? ⟨wb.heap.size, 3, none⟩ = some v := (blk_cell p2 3).trans rfl; have fp2 := blk_frozen p2 3; have ce2 : w2.cell? ⟨w.heap.size, 0, none⟩ = some .nilIface := (blk_cell e2 0).trans rfl; have fe2 := blk_frozen e2 0; have HO2 := Aside0.mk ho; have HB2 := Aside0.mk hb2; have HG2' := Aside0.mk hg2; clear ho hb2 hg2 hat2 p2 e2)
        refine leaves_cons (f := 34) (args := #[.pointer (some ⟨w.heap.size, 0, none⟩)]) (by simp) (by simp [go_sem]) ?_
        have cEE := cell_nil (cell_far3 (g := wb.heap.size) (u := .slice A2 n2 c2) ce2)
        refine (deferred_nothing w.heap.size .returning _ cEE).mono ?_
        rintro e u' w'' ⟨rfl, rfl, rfl⟩
        exact ⟨_, by simp [results, Tryd.results31, go_sem, cEE], PR.done (PR.next (by omega) HG3.out (by omega) (blk_drewN HEA.out nq) PBD.out VD.out (by omega) HMAP.out (by rw [hnex.out]; exact knows_more HKN.out) HG2'.out HO2.out HB2.out HPBW.out) hlk HPBW.out⟩
      | lit hL h1 h2 =>
        by_cases hend : k + 1 < l.length
        · have hidx : Lib.indexByte r1.data.toList 47 = sg.size := by
            have hd : l.drop (k + 1) = l[k + 1] :: l.drop (k + 1 + 1) := List.drop_eq_getElem_cons hend
            rw [hd] at HG1
            exact slash_mid HG1.out HG2.out hns
          have hsgl : sg.data.toList = x.f0.data.toList := by rw [HG2.out, segL_lit hL h1 h2]
          have hbr : Lib.indexByte sg.data.toList 123 = -1 := by rw [hsgl]; exact idx_none _ _ (hL.no (.inr (.inl rfl)))
          have hsg : sg = x.f0 := str_eq hsgl
          have hpc : ∀ j, j < sg.size → byt sg j ≠ 37 := by rw [hsg]; exact fun j hj e => by have := hL.2.2.2.2 j hj; rw [e] at this; unfold litC at this; omega
          have hr1 : 0 < r1.size := by have := hL.pos; rw [← hsg] at this; omega
          have s1 : (0 : Int) ≤ (sg.size : Int) := by omega
          have s2 : (sg.size : Int) ≤ (r1.size : Int) := by omega
          have s3 : sg.size ≤ r1.size := by omega
          have Hidx := Lib.hid hidx; have Hbr := Lib.hid hbr; have Hpc := Lib.hid hpc
          have hxe : (⟨sg, false, false⟩ : S42) = x := s42_eq hsg h1.symm h2.symm
          have HX := Lib.hid hxe
          have z3 : r2.size < q.size := by omega
          clear hidx hbr hpc hsg hxe hsgl hns
          have n0 : ((r1.size : Int) == 0) = false := beq_eq_false_iff_ne.2 (by omega)
          clear hL h1 h2 z1
          have cE : wr.cell? ⟨w.heap.size, 0, none⟩ = some .nilIface := (blk_cell HE 0).trans rfl
          have cp : wr.cell? ⟨wb.heap.size, 3, none⟩ = some v := (blk_cell hpb 3).trans rfl
          have fp := blk_frozen hpb 3
          have fE := blk_frozen HE 0
          go_wp2_with fail
          refine (slash_at r1 _ _ Hidx.out).mono ?_
          rintro e wq ⟨rfl, rfl⟩
          go_wp2_with fail
          go_quiet (fail)
          go_wp2_with fail
          refine (brace_at sg _ _ Hbr.out).mono ?_
          rintro e wq ⟨rfl, rfl⟩
          go_wp2_with fail
          refine (pathUnescape_same sg _ (by omega) Hpc.out).mono ?_
          rintro e wq ⟨rfl, rfl⟩
          have VD := Aside0.mk (Kd.R_drewN HV.out nq)
          have PBD := Aside0.mk (blk_drewN HPB.out nq)
          go_wp2_with ((with_reducible refine gate_builtin (b := .append) (xs := #[.tmp 142, .tmp 145]) rfl ?_); at_builtin; refine Kd.R_append k42 (w0 := w) w.heap.size rfl (.tmp 142) (.tmp 145) 58 62 (.agg #[(.string ⟨#[]⟩), (.bool false), (.bool false)]) 24 rfl Tryd.underlying58 info62 rfl (by decide) (by omega) v (l.take k) (⟨sg, false, false⟩ : S42) [.string sg, .bool false, .bool false] (fun _ => True) (fun _ => False) rfl (by first | (go_simp; done) | (go_simp; rfl)) ?aP (fun _ hk => hk.elim) ?aF ?aO ?aB ?aS ?aL ?_; (case aP => exact k42_mkM _ _ _ (⟨sg, false, false⟩ : S42)); (case aF => exact (fun _ _ => trivial)); (case aO => exact VD.out); (case aB => exact (pw_below_drewN HB.out nq)); (case aS => exact (below_size (pw_below_drewN HB.out nq))); (case aL => have := List.length_take_le k l; have := HL.out.six; omega); intro v2 w2 ho hb2 hg2 hat2; rw [HX.out, ← hnex.out] at ho; obtain ⟨A2, n2, c2, ev⟩ := slice_form ho; subst ev; have p2 := blk_grown PBD.out hg2 (Kd.R_ne VD.out PBD.out (by decide)); have e2 := blk_grown (blk_drewN HEA.out nq) hg2 (Kd.R_ne VD.out (blk_drewN HEA.out nq) (by decide)); have cp2 : w2.cell? ⟨wb.heap.size, 3, none⟩ = some v := (blk_cell p2 3).trans rfl; have fp2 := blk_frozen p2 3; have ce2 : w2.cell? ⟨w.heap.size, 0, none⟩ = some .nilIface := (blk_cell e2 0).trans rfl; have fe2 := blk_frozen e2 0; have HO2 := Aside0.mk ho; have HB2 := Aside0.mk hb2; have HG2' := Aside0.mk hg2; clear ho hb2 hg2 hat2 p2 e2)
          go_roundw
          case rel => exact ⟨k + 1, r2, rfl, PR.next (by omega) HG3.out (by omega) (blk_drewN HEA.out nq) PBD.out VD.out (by omega) HMAP.out (by rw [hnex.out]; exact knows_more HKN.out) HG2'.out HO2.out HB2.out HPBW.out⟩
          case measure => show r2.size < q.size; omega
        · have hnil : l.drop (k + 1) = [] := List.drop_eq_nil_of_le (by omega)
          have hidx : Lib.indexByte r1.data.toList 47 = -1 := by rw [hnil] at HG1; exact slash_end HG1.out hns
          have hr2 : r2.data.toList = [] := by rw [HG3.out, hnil, restL_nil]
          have hz2 : r2.size = 0 := by rw [Lib.size_eq, hr2]; rfl
          have hsr : sg = r1 := str_eq (by rw [HG2.out, HG1.out, hnil, restL_nil, List.append_nil])
          subst hsr
          have hre : r2 = ByteArray.empty := str_eq (by rw [hr2]; rfl)
          subst hre
          clear hnil hr2
          have hsgl : sg.data.toList = x.f0.data.toList := by rw [HG2.out, segL_lit hL h1 h2]
          have hbr : Lib.indexByte sg.data.toList 123 = -1 := by rw [hsgl]; exact idx_none _ _ (hL.no (.inr (.inl rfl)))
          have hsg : sg = x.f0 := str_eq hsgl
          have hpc : ∀ j, j < sg.size → byt sg j ≠ 37 := by rw [hsg]; exact fun j hj e => by have := hL.2.2.2.2 j hj; rw [e] at this; unfold litC at this; omega
          have hr1 : 0 < sg.size := by have := hL.pos; rw [← hsg] at this; omega
          have s1 : (0 : Int) ≤ (sg.size : Int) := by omega
          have s2 : (sg.size : Int) ≤ (sg.size : Int) := by omega
          have s3 : sg.size ≤ sg.size := by omega
          have Hidx := Lib.hid hidx; have Hbr := Lib.hid hbr; have Hpc := Lib.hid hpc
          have hxe : (⟨sg, false, false⟩ : S42) = x := s42_eq hsg h1.symm h2.symm
          have HX := Lib.hid hxe
          have z3 : ByteArray.empty.size < q.size := by omega
          clear hidx hbr hpc hsg hxe hsgl hns
          have n0 : ((sg.size : Int) == 0) = false := beq_eq_false_iff_ne.2 (by omega)
          clear hL h1 h2 z1
          have cE : wr.cell? ⟨w.heap.size, 0, none⟩ = some .nilIface := (blk_cell HE 0).trans rfl
          have cp : wr.cell? ⟨wb.heap.size, 3, none⟩ = some v := (blk_cell hpb 3).trans rfl
          have fp := blk_frozen hpb 3
          have fE := blk_frozen HE 0
          go_wp2_with fail
          refine (slash_at sg _ _ Hidx.out).mono ?_
          rintro e wq ⟨rfl, rfl⟩
          go_wp2_with fail
          go_quiet (fail)
          go_wp2_with fail
          refine (brace_at sg _ _ Hbr.out).mono ?_
          rintro e wq ⟨rfl, rfl⟩
          go_wp2_with fail
          refine (pathUnescape_same sg _ (by omega) Hpc.out).mono ?_
          rintro e wq ⟨rfl, rfl⟩
          have VD := Aside0.mk (Kd.R_drewN HV.out nq)
          have PBD := Aside0.mk (blk_drewN HPB.out nq)
          go_wp2_with ((with_reducible refine gate_builtin (b := .append) (xs := #[.tmp 142, .tmp 145]) rfl ?_); at_builtin; refine Kd.R_append k42 (w0 := w) w.heap.size rfl (.tmp 142) (.tmp 145) 58 62 (.agg #[(.string ⟨#[]⟩), (.bool false), (.bool false)]) 24 rfl Tryd.underlying58 info62 rfl (by decide) (by omega) v (l.take k) (⟨sg, false, false⟩ : S42) [.string sg, .bool false, .bool false] (fun _ => True) (fun _ => False) rfl (by first | (go_simp; done) | (go_simp; rfl)) ?aP (fun _ hk => hk.elim) ?aF ?aO ?aB ?aS ?aL ?_; (case aP => exact k42_mkM _ _ _ (⟨sg, false, false⟩ : S42)); (case aF => exact (fun _ _ => trivial)); (case aO => exact VD.out); (case aB => exact (pw_below_drewN HB.out nq)); (case aS => exact (below_size (pw_below_drewN HB.out nq))); (case aL => have := List.length_take_le k l; have := HL.out.six; omega); intro v2 w2 ho hb2 hg2 hat2; rw [HX.out, ← hnex.out] at ho; obtain ⟨A2, n2, c2, ev⟩ := slice_form ho; subst ev; have p2 := blk_grown PBD.out hg2 (Kd.R_ne VD.out PBD.out (by decide)); have e2 := blk_grown (blk_drewN HEA.out nq) hg2 (Kd.R_ne VD.out (blk_drewN HEA.out nq) (by decide)); have cp2 : w2.cell? ⟨wb.heap.size, 3, none⟩ = some v := (blk_cell p2 3).trans rfl; have fp2 := blk_frozen p2 3; have ce2 : w2.cell? ⟨w.heap.size, 0, none⟩ = some .nilIface := (blk_cell e2 0).trans rfl; have fe2 := blk_frozen e2 0; have HO2 := Aside0.mk ho; have HB2 := Aside0.mk hb2; have HG2' := Aside0.mk hg2; clear ho hb2 hg2 hat2 p2 e2)
          go_roundw
          case rel => exact ⟨k + 1, ByteArray.empty, rfl, PR.next (by omega) HG3.out (by omega) (blk_drewN HEA.out nq) PBD.out VD.out (by omega) HMAP.out (by rw [hnex.out]; exact knows_more HKN.out) HG2'.out HO2.out HB2.out HPBW.out⟩
          case measure => show ByteArray.empty.size < q.size; omega
    · have hk0 : k = l.length := by have := HP.hk; omega
      have hq0 : q.size = 0 := by rw [Lib.size_eq, HP.hr, hk0, List.drop_length]; rfl
      have HPA := Aside0.mk HP
      have cE : wr.cell? ⟨w.heap.size, 0, none⟩ = some .nilIface := (blk_cell HP.hE 0).trans rfl
      have fE := blk_frozen HP.hE 0
      have d0 : decide ((0 : Int) < (q.size : Int)) = false := decide_eq_false (by omega)
      have d1 : decide (0 < q.size) = false := decide_eq_false (by omega)
      have hkk : l.length ≤ k := by omega
      clear HP hq0 hk0
      go_wp2_with fail
      refine leaves_cons (f := 34) (args := #[.pointer (some ⟨w.heap.size, 0, none⟩)]) (by simp) (by simp [go_sem]) ?_
      have cEE := cell_nil cE
      refine (deferred_nothing w.heap.size .returning _ cEE).mono ?_
      rintro e u' w'' ⟨rfl, rfl, rfl⟩
      exact ⟨_, by simp [results, Tryd.results31, go_sem, cEE], PR.done HPA.out hkk HPBW.out⟩
end Go.Proofs.YtmkbkpeccddejaaDoor
