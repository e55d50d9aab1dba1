/- Proved: the tied card of FnDifference: whatever the two patterns, the law answers true, and both patterns and the table of the package that escapes paths read as before; conditions: the four listed variables are laid as the program's text lays them (the card's tie, given); what Go's own library does is walked or taken by the kit's proved contracts. -/
import Derived.Test.YtmkbkpeccddejaaDoorS8
import Derived.Test.YtmkbkpeccddejaaDoorRows
import Derived.Test.YtmkbkpeccddejaaDoorCards
import Derived.Test.YtmkbkpeccddejaaDoorTie
import Derived.ProofKit
import Derived.OpenShut
import Derived.LaidMore
import Derived.Lay
import Derived.SevenTiedAt
import Derived.Stop.Joined
import Derived.Carry
import Derived.OpenVars
import Derived.ChangeVars
import Derived.Deep.Slices
import Derived.Lib.SmallJoins
import Derived.Lib.LaidTab
namespace Go.Proofs.YtmkbkpeccddejaaDoor
open Go.ChangeShapes Go.WideShapes Go.ChangeAt Go.RowKit PFnDifference Go.Proofs.YtmkbkpeccddejaaDoorW.PrintWords
set_option linter.unusedVariables false
set_option linter.unusedSimpArgs false

theorem knobOwn : ownKnob Tryd.prog.godebug = none := by kernel_rfl
theorem progLaidOut : laidOutB Tryd.prog = true := by kernel_rfl
instance : Inhabited S47 := ⟨z47⟩
/-- Three texts of cells are one list. -/
theorem three_cells {cs : List Value} {a b c : Value} (h : cs.length = 3) (h0 : (cs.drop 0).take 1 = [a]) (h1 : (cs.drop 1).take 1 = [b]) (h2 : (cs.drop 2).take 1 = [c]) : cs = [a, b, c] := by
  match cs, h with
  | [x, y, z], _ =>
    simp at h0 h1 h2
    subst h0 h1 h2
    rfl
section
variable {H : Type} {enc : TypeId × Value → H} {w : World} {sp : Nat → Bool} {held : Bool}

set_option maxRecDepth 100000 in
theorem open_segs {fuel : Nat} {cs : List Value} {x : DataW H × List MemPlace} (h : DataW.trod enc Tryd.prog w 0 sp held fuel 22 cs = some x) :
    ∃ (A : Option Addr) (c : Nat) (l : List S47), cs = [.slice A l.length c] ∧ l.length ≤ c ∧ Kd.C k47 w A l.length l := by
  rcases Go.Deep.open_slice Tryd.underlying22 h with ⟨rfl, _⟩ | ⟨a, len, cap, m, n, D, Pl, rfl, _, hl, hcap, hm, _, hi⟩
  · exact ⟨none, 0, [], rfl, Nat.le_refl _, rfl, by simp, fun h => absurd h (by simp)⟩
  · have c47 : Tryd.prog.cellsOf 47 = 3 := by kernel_rfl
    have c9 : Tryd.prog.cellsOf 9 = 1 := by kernel_rfl
    have c4 : Tryd.prog.cellsOf 4 = 1 := by kernel_rfl
    have hlm : len ≤ m := by rw [hm]; split <;> omega
    have each : ∀ i, i < len → ∃ s : S47, ∀ j u, [Value.string s.f0, .bool s.f1, .bool s.f2][j]? = some u → w.cell? (a.add (i * 3 + j)) = some u := fun i hil => by
      obtain ⟨cs', hc, ht⟩ := hi i (by omega)
      rw [c47] at hc
      obtain ⟨xs, n', _, _, hlen, hxl, hf⟩ := DataW.trod_struct Tryd.underlying47 ht
      rw [c47] at hlen
      have h0 : DataW.trod enc Tryd.prog w 0 sp held n' 9 ((cs'.drop 0).take (Tryd.prog.cellsOf 9)) = xs[0]? := hf 0 _ rfl
      have h1 : DataW.trod enc Tryd.prog w 0 sp held n' 4 ((cs'.drop 1).take (Tryd.prog.cellsOf 4)) = xs[1]? := hf 1 _ rfl
      have h2 : DataW.trod enc Tryd.prog w 0 sp held n' 4 ((cs'.drop 2).take (Tryd.prog.cellsOf 4)) = xs[2]? := hf 2 _ rfl
      have hx0 : xs[0]? = some (xs[0]'(by rw [hxl]; decide)) := List.getElem?_eq_getElem _
      have hx1 : xs[1]? = some (xs[1]'(by rw [hxl]; decide)) := List.getElem?_eq_getElem _
      have hx2 : xs[2]? = some (xs[2]'(by rw [hxl]; decide)) := List.getElem?_eq_getElem _
      rw [c9, hx0] at h0
      rw [c4, hx1] at h1
      rw [c4, hx2] at h2
      obtain ⟨s0, e0, _, _⟩ := DataW.trod_string Tryd.underlying9 h0
      obtain ⟨s1, e1, _⟩ := DataW.trod_bool Tryd.underlying4 h1
      obtain ⟨s2, e2, _⟩ := DataW.trod_bool Tryd.underlying4 h2
      have ecs := three_cells hlen e0 e1 e2
      obtain ⟨_, _, hat⟩ := World.cells?_some hc
      refine ⟨⟨s0, s1, s2⟩, fun j u hu => ?_⟩
      have hj : j < 3 := by have := (List.getElem?_eq_some_iff.1 hu).1; simpa using this
      rw [← Go.Deep.add_add, hat j hj, ecs]
      exact hu
    obtain ⟨F, hF⟩ := Go.Deep.choose_lt each
    have hln : ((List.range len).map F).length = len := by simp
    refine ⟨some a, cap, (List.range len).map F, by rw [hln], by rw [hln]; exact hl, ?_⟩
    rw [hln]
    refine ⟨hln, by unfold maxLen at hcap; omega, fun _ => ⟨a, rfl, fun j p hj => ?_⟩⟩
    rw [List.getElem?_map] at hj
    cases hr : (List.range len)[j]? with
    | none => rw [hr] at hj; cases hj
    | some i =>
      rw [hr] at hj
      obtain ⟨hjl, e⟩ := List.getElem?_eq_some_iff.1 hr
      have hji : i = j := by rw [← e, List.getElem_range]
      have hp : F i = p := Option.some.inj hj
      subst hji
      have hil : i < len := by simpa using hjl
      exact ⟨[.string p.f0, .bool p.f1, .bool p.f2], rfl, k47_mk w p, fun k u hu => by rw [← hp] at hu; exact hF i hil k u hu⟩

set_option maxRecDepth 100000 in
theorem open_pat {r : Reach} {b0 : Nat} {v : Value} {d : DataW H} {p : List MemPlace} (hv : Value.okWide Tryd.prog w r b0 24 v) (h : DataW.Trod enc Tryd.prog w 0 sp held 24 v d p) :
    ∃ (m h : ByteArray) (A : Option Addr) (c : Nat) (l : List S47), v = .agg #[.string m, .string h, .slice A l.length c] ∧ l.length ≤ c ∧ Kd.C k47 w A l.length l := by
  obtain ⟨v0, v1, v2, y0, y1, y2, n, rfl, _, _, h0, h1, h2⟩ := Go.Joins.open_agg3 Tryd.underlying24 (by kernel_rfl) (by kernel_rfl) hv h
  obtain ⟨s0, e0, _, _⟩ := DataW.trod_string Tryd.underlying9 h0
  obtain ⟨s1, e1, _, _⟩ := DataW.trod_string Tryd.underlying9 h1
  obtain ⟨A, c, l, e2, hl, hC⟩ := open_segs h2
  obtain rfl : v0 = .string s0 := by simpa using e0
  obtain rfl : v1 = .string s1 := by simpa using e1
  obtain rfl : v2 = .slice A l.length c := by simpa using e2
  exact ⟨s0, s1, A, c, l, rfl, hl, hC⟩
end

set_option maxRecDepth 100000 in
theorem props_of_laid {W : World} (h : laidMetH Tryd.prog Rows.fnDifferenceRow.laid W) : Props W := by
  rw [MakeChecks.laidMetH_plain _ _ _ (by kernel_rfl)] at h
  have e : (Rows.laid_unicode_properties : DataW Unit) = Lib.tabData .u8 Lib.propertiesTab := by kernel_rfl
  have h' : laidMet Tryd.prog (("unicode.properties", Lib.tabData .u8 Lib.propertiesTab) :: [("loop.example/pub-routepatterns/pub/neturl.table", Rows.laid_loop_example_pub_routepatterns_pub_neturl_table), ("unicode.Digit", Rows.laid_unicode_Digit), ("unicode.Letter", Rows.laid_unicode_Letter)]) W := by
    rw [← e]; exact h
  exact Lib.tabIs_of_head props_global (t := 101) (e := 5) (n := 256) (by kernel_rfl) Tryd.underlying101 Tryd.underlying5 (by kernel_rfl) (by kernel_rfl) h'

set_option maxRecDepth 100000 in
theorem lifted (os : Os) (started : os.Started) (H : Type) (enc : TypeId × Value → H) :
    ReturnsInHanded {} Tryd.checked os 3 .any (fun w args => (Rows.fnDifferenceSpec.pre enc Tryd.prog Tryd.f3 Rows.fnDifferenceRow.domain false w args ∧ laidMetH Tryd.prog Rows.fnDifferenceRow.laid w) ∧ sizedMet enc Tryd.prog Tryd.f3 (OpenSpec.ofChange Rows.fnDifferenceSpec) false w args)
      (Rows.fnDifferenceSpec.post enc Tryd.prog Tryd.f3 false true false false) := by
  refine returnsInHanded_of_change_and (C := Tryd.checked) (X := fun w _ => laidMetH Tryd.prog Rows.fnDifferenceRow.laid w) (fun _ _ _ hh h => h.of_heap hh) knobOwn started (by kernel_rfl) Tryd.func3
    (ChangeSpec.witness_shaped (enc := enc) (C := Tryd.checked) (os := os) (X := fun w _ => laidMetH Tryd.prog Rows.fnDifferenceRow.laid w) false (World.laidAll Tryd.prog os Rows.fnDifferenceRow.laid) #[.agg #[.string ⟨#[]⟩, .string ⟨#[]⟩, .slice none 0 0], .agg #[.string ⟨#[]⟩, .string ⟨#[]⟩, .slice none 0 0]] 8 (World.laidAll_os _ _ _)
      (World.shaped_of_ZipB (by kernel_rfl) (by kernel_rfl)) (by kernel_rfl) (by kernel_rfl) (by kernel_rfl)
      (by rw [MakeChecks.laidMetH_plain _ _ _ (by kernel_rfl)]; exact laidMet_laidAll _ (by kernel_rfl) (by kernel_rfl))) ?_
  intro W base args ds gs before hval0 hW hc _ hL _
  have hval : ∀ (j : Nat) t v, Tryd.f3.params[j]? = some t → args[j]? = some v → Value.okWide Tryd.prog W .any base t v := hval0
  have hW' := hW
  obtain ⟨p, q, hA0, hV, rfl, _, _⟩ := hW
  have hA : DataW.TrodAll enc Tryd.prog W 0 (fun _ => true) true Tryd.f3.params.toList args.toList ds p := hA0
  rw [Tryd.params3] at hA hval
  obtain ⟨v0, vs0, d0, ds0, p0, q0, hargs, rfl, rfl, h0, r0⟩ := trodAll_cons hA
  obtain ⟨v1, vs1, d1, ds1, p1, q1, rfl, rfl, rfl, h1, r1⟩ := trodAll_cons r0
  obtain ⟨rfl, rfl, rfl⟩ := trodAll_nil r1
  obtain rfl : args = #[v0, v1] := by cases args; simp_all
  obtain ⟨gg, tg, cg, fg, dg, pg, rfl, _⟩ := trodVars_one hV
  obtain ⟨ma, ha, A, ca, la, rfl, hla, hCa⟩ := open_pat (hval 0 24 v0 rfl rfl) h0
  obtain ⟨mb, hb, B, cb, lb, rfl, hlb, hCb⟩ := open_pat (hval 1 24 v1 rfl rfl) h1
  have hprop := props_of_laid hL
  refine (law_calls ma ha mb hb A B ca cb la lb W hprop hCa hla hCb hlb).mono fun e W' ⟨he, hbel⟩ => ?_
  subst he
  have lt0 : ∀ x ∈ p0, x.block < W.heap.size := by obtain ⟨m, hm⟩ := h0; exact DataW.trod_lt m _ _ _ hm
  have lt1 : ∀ x ∈ p1, x.block < W.heap.size := by obtain ⟨m, hm⟩ := h1; exact DataW.trod_lt m _ _ _ hm
  have b0 := Below.trod progLaidOut (by kernel_rfl) (of_decide_eq_true (by kernel_rfl)) h0 hbel lt0
  have b1 := Below.trod progLaidOut (by kernel_rfl) (of_decide_eq_true (by kernel_rfl)) h1 hbel lt1
  have bv := Below.trodVars progLaidOut hbel (by kernel_rfl) hV
  exact ⟨_, rfl, _, _, _, [], _, _, hW', trodAll_mk1 (shut_bool Tryd.underlying4 true), trodAll_cons_mk b0 (trodAll_cons_mk b1 trodAll_mk0), bv, hbel.frame _, fun h => by cases h⟩

theorem fnDifference_holds : Rows.FnDifferenceSaid :=
  OpenClaim.holds_of_wide 3 Tryd.f3 rfl rfl rfl rfl rfl rfl rfl ⟨rfl, rfl, rfl, rfl, rfl⟩ rfl rfl rfl rfl rfl (by kernel_rfl) Tryd.func3 (by kernel_rfl)
    (of_decide_eq_true (by kernel_rfl)) (by unfold Func.isWrapper; first | (rw [if_pos (by decide +kernel)]; kernel_rfl) | (rw [if_neg (by decide +kernel)]; exact ⟨rfl, rfl⟩))
    (fun os started H enc _ => lifted os started H enc)
theorem fnDifference_card_holds : Rows.FnDifferenceCardSaid :=
  Claim7.holds_tied_plain_at .later [] [.data, .data, .pinned, .pinned] true (true, "569107eb4db17c5f15dd772bdea1db5e23be191b57b090c1ff0139c85cdf5bbd") false fnDifference_holds (fun _ h => by cases h) (by kernel_rfl) (fun _ h => by cases h) fnDifference_row_tie rfl ⟨rfl, rfl⟩ (by kernel_rfl) rfl
    (fun f fn hf hfn => by
      obtain rfl : f = 3 := Option.some.inj ((show Tryd.prog.funcNamed "loop.example/pub-routepatterns/laws.FnDifference" = some 3 by kernel_rfl).symm.trans hf) |>.symm
      obtain rfl : fn = Tryd.f3 := (Option.some.inj (Tryd.func3.symm.trans hfn)).symm
      exact ⟨by kernel_rfl, fun j t ht => by
        rw [Tryd.params3] at ht
        have hm : t ∈ [24, 24] := by simpa using Array.mem_of_getElem? ht
        have hall : ([24, 24].all fun u => !Tryd.prog.wantsStandIn u) = true := by kernel_rfl
        exact (show Tryd.prog.wantsStandIn t = false by simpa using List.all_eq_true.1 hall t hm)⟩)
    (by kernel_rfl)
#print axioms fnDifference_card_holds
end Go.Proofs.YtmkbkpeccddejaaDoor
