/- The walk of the reference's Items at a path that is written of pieces: it hands them back. -/
import Derived.Test.YtmkbkpeccddejaaDoorL1
import Derived.Test.YtmkbkpeccddejaaDoorP4
namespace Go.Proofs.YtmkbkpeccddejaaDoor
open Go.RowKit PFnDifference Go.Proofs.YtmkbkpeccddejaaDoorW.PrintWords Go.Proofs.YtmkbkpeccddejaaDoorW.PrintLast Go.Proofs.YtmkbkpeccddejaaDoorW.PrintMore
set_option linter.unusedVariables false
set_option linter.unusedSimpArgs false

/-- The k-th piece of a path: where it begins (p), how long it is (m), what it is (b). -/
structure ItemAt (s : ByteArray) (its : List (List UInt8)) (k p m : Nat) (b : ByteArray) : Prop where
  it : its[k]? = some b.data.toList
  hp : p + m ≤ s.size
  inn : ∀ j, j < m → byt s (p + j) ≠ 47
  fin : (k + 1 < its.length ∧ p + m < s.size ∧ byt s (p + m) = 47) ∨ (k + 1 = its.length ∧ p + m = s.size)
  zero : m = 0 → b.data.toList = [47] ∧ k + 1 = its.length
  pos : 0 < m → s.extract p (p + m) = b
  beg : (pathB (its.take k)).length + 1 = p
  nxt : (pathB (its.take (k + 1))).length + 1 = p + m + 1
theorem okIts_get : ∀ (its : List (List UInt8)) (k : Nat) (x : List UInt8), OkIts its → its[k]? = some x → OkIt x ∨ (x = [47] ∧ k + 1 = its.length)
  | [], k, x, _, h => by simp at h
  | y :: its, 0, x, ⟨h1, _⟩, h => by
    simp at h
    subst h
    rcases h1 with h1 | ⟨h1, h2⟩
    · exact .inl h1
    · exact .inr ⟨h1, by rw [h2]; rfl⟩
  | y :: its, k + 1, x, ⟨_, h2⟩, h => by
    rcases okIts_get its k x h2 (by simpa using h) with h3 | ⟨h3, h4⟩
    · exact .inl h3
    · exact .inr ⟨h3, by simp [h4]⟩
theorem pathB_append (a b : List (List UInt8)) : pathB (a ++ b) = pathB a ++ pathB b := by simp [pathB]
theorem itemAt (s : ByteArray) (its : List (List UInt8)) (k : Nat) (hs : s.data.toList = pathB its) (hok : OkIts its) (hk : k < its.length) : ∃ p m b, ItemAt s its k p m b := by
  obtain ⟨x, hx⟩ : ∃ x, its[k]? = some x := ⟨_, List.getElem?_eq_getElem hk⟩
  have hsplit : its = its.take k ++ x :: its.drop (k + 1) := by
    obtain ⟨hlt, e⟩ := List.getElem?_eq_some_iff.1 hx
    rw [← e, ← List.drop_eq_getElem_cons hlt, List.take_append_drop]
  have htk : its.take (k + 1) = its.take k ++ [x] := by
    obtain ⟨hlt, e⟩ := List.getElem?_eq_some_iff.1 hx
    rw [List.take_succ_eq_append_getElem hlt, e]
  obtain ⟨y, hy⟩ : ∃ y : List UInt8, y = if x = [47] then [] else x := ⟨_, rfl⟩
  have hb : s.data.toList = pathB (its.take k) ++ 47 :: (y ++ pathB (its.drop (k + 1))) := by
    rw [hs]
    conv => lhs; rw [hsplit]
    rw [pathB_append, pathB_cons, hy]
  have hsz : s.size = (pathB (its.take k)).length + 1 + y.length + (pathB (its.drop (k + 1))).length := by
    rw [Lib.size_eq, hb]; simp; omega
  obtain ⟨p, hp⟩ : ∃ p, p = (pathB (its.take k)).length + 1 := ⟨_, rfl⟩
  have hb2 : s.data.toList = (pathB (its.take k) ++ [47]) ++ (y ++ pathB (its.drop (k + 1))) := by rw [hb]; simp
  have hpl : (pathB (its.take k) ++ [47]).length = p := by rw [hp]; simp
  have hok2 := okIts_get its k x hok hx
  refine ⟨p, y.length, ⟨x.toArray⟩, ?_, by omega, ?_, ?_, ?_, ?_, hp.symm, ?_⟩
  · rw [hx]
  · intro j hj
    obtain ⟨c, hc⟩ : ∃ c, y[j]? = some c := ⟨_, List.getElem?_eq_getElem hj⟩
    have h1 : s.data.toList[p + j]? = some c := by
      rw [hb2, List.getElem?_append_right (by omega), hpl, Nat.add_sub_cancel_left, List.getElem?_append_left hj]
      exact hc
    rw [byt_get h1]
    intro e
    have hc47 : c = 47 := UInt8.toNat_inj.1 (by exact_mod_cast e)
    have hmem : (47 : UInt8) ∈ y := hc47 ▸ List.mem_of_getElem? hc
    rw [hy] at hmem
    split at hmem
    · simp at hmem
    · rcases hok2 with h | ⟨h, _⟩
      · exact h.2.1 hmem
      · contradiction
  · by_cases hk1 : k + 1 < its.length
    · left
      obtain ⟨z, hz⟩ : ∃ z, its.drop (k + 1) = z :: its.drop (k + 1 + 1) := ⟨_, List.drop_eq_getElem_cons hk1⟩
      have hd : ∃ t, pathB (its.drop (k + 1)) = 47 :: t := ⟨_, by rw [hz]; exact pathB_cons _ _⟩
      obtain ⟨t, ht⟩ := hd
      have h1 : s.data.toList[p + y.length]? = some 47 := by
        rw [hb2, List.getElem?_append_right (by omega), hpl, Nat.add_sub_cancel_left, List.getElem?_append_right (Nat.le_refl _), Nat.sub_self, ht]
        rfl
      refine ⟨hk1, ?_, byt_get h1⟩
      rw [hsz, ht, List.length_cons]
      omega
    · right
      have : its.drop (k + 1) = [] := List.drop_eq_nil_of_le (by omega)
      have e0 : (pathB (its.drop (k + 1))).length = 0 := by rw [this]; rfl
      exact ⟨by omega, by omega⟩
  · intro h0
    have hyn : y = [] := List.eq_nil_of_length_eq_zero h0
    rw [hy] at hyn
    split at hyn
    · rename_i h47
      refine ⟨h47, ?_⟩
      rcases hok2 with h | ⟨_, h⟩
      · exact absurd (show (47 : UInt8) ∈ x by rw [h47]; simp) h.2.1
      · exact h
    · rcases hok2 with h | ⟨h, _⟩
      · exact absurd hyn h.1
      · contradiction
  · intro h0
    refine str_eq ?_
    have hyx : y = x := by
      rw [hy]
      split
      · rename_i h47; rw [hy, if_pos h47] at h0; simp at h0
      · rfl
    rw [Lib.extract_data, hb2, List.drop_left' hpl, Nat.add_sub_cancel_left, hyx]
    simp
  · rw [htk, pathB_append, pathB_cons, ← hy, hp]
    simp [pathB]
    omega

/-- The pieces as texts. -/
def texts (its : List (List UInt8)) : List ByteArray := its.map fun l => ⟨l.toArray⟩
theorem texts_len (its : List (List UInt8)) : (texts its).length = its.length := by simp [texts]
theorem texts_take (its : List (List UInt8)) (k : Nat) (b : ByteArray) (h : its[k]? = some b.data.toList) : (texts its).take (k + 1) = (texts its).take k ++ [b] := by
  obtain ⟨hk, e⟩ := List.getElem?_eq_some_iff.1 h
  rw [List.take_succ_eq_append_getElem (by rw [texts_len]; exact hk)]
  congr 1
  have : (texts its)[k]'(by rw [texts_len]; exact hk) = b := by
    unfold texts
    rw [List.getElem_map, e]
  rw [this]
def ItemsPost (its : List (List UInt8)) (w : World) (e : Ending) (w' : World) : Prop :=
  ∃ v, e = .returned (.tuple #[v, .bool true]) ∧ Kd.string.R 9 w' w.heap.size (fun _ => True) v (texts its) ∧ Below w.heap.size w w'
/-- The state at the head of Items's loop. -/
def ItemsSt (s : ByteArray) (its : List (List UInt8)) (k from' i : Nat) : Prop :=
  (∃ p m b j, ItemAt s its k p m b ∧ j ≤ m ∧ from' = p ∧ i = p + j) ∨ (k = its.length ∧ from' = s.size + 1 ∧ i = s.size + 1)
theorem ItemsSt.next {s : ByteArray} {its : List (List UInt8)} {k p m : Nat} {b : ByteArray} (hs : s.data.toList = pathB its) (hok : OkIts its) (h : ItemAt s its k p m b) : ItemsSt s its (k + 1) (p + m + 1) (p + m + 1) := by
  rcases h.fin with ⟨h1, _, _⟩ | ⟨h1, h2⟩
  · obtain ⟨p2, m2, b2, h3⟩ := itemAt s its (k + 1) hs hok h1
    have e : p2 = p + m + 1 := by rw [← h3.beg, h.nxt]
    exact .inl ⟨p2, m2, b2, 0, h3, Nat.zero_le _, e.symm, e.symm⟩
  · exact .inr ⟨h1, by omega, by omega⟩

set_option maxHeartbeats 8000000 in
set_option maxRecDepth 100000 in
theorem items_calls (s : ByteArray) (its : List (List UInt8)) (w : World) (hs : s.data.toList = pathB its) (hok : OkIts its) (hne : 0 < its.length) (h6 : its.length ≤ 100) (hlen : s.size ≤ 120) :
    Calls Tryd.prog 16 #[.string s] w (ItemsPost its w) := by
  obtain ⟨p0, m0, b0, hI0⟩ := itemAt s its 0 hs hok hne
  have hp0 : p0 = 1 := by have := hI0.beg; simp [pathB] at this; omega
  have hs0 : 0 < s.size := by have := hI0.hp; omega
  have hf : byt s 0 = 47 := by
    refine byt_get (c := 47) ?_
    rw [hs]
    cases its with
    | nil => simp at hne
    | cons x t => rw [pathB_cons]; rfl
  have h37 : ∀ k, k < s.size → byt s k ≠ 37 := byt_of_mem (P := fun c => c ≠ 37) (fun c hc => by
    rw [hs] at hc
    unfold pathB at hc
    obtain ⟨x, hx, hcx⟩ := List.mem_flatMap.1 hc
    obtain ⟨i, hi, e⟩ := List.getElem_of_mem hx
    have := okIts_get its i x hok (by rw [List.getElem?_eq_getElem hi, e])
    intro e37
    have e2 : c = 37 := UInt8.toNat_inj.1 (by exact_mod_cast e37)
    subst e2
    rcases List.mem_cons.1 hcx with h | h
    · cases h
    · split at h
      · simp at h
      · rcases this with h2 | ⟨h2, _⟩
        · exact h2.2.2.1 h
        · contradiction)
  have em := notEmpty_of_pos hs0
  have hx0 := byt_at s 0 hs0
  obtain ⟨c0, hc0⟩ : ∃ c, c = byt s 0 := ⟨_, rfl⟩
  rw [← hc0] at hx0
  have ec0 : (c0 != 47) = false := bne_eq_false_iff_eq.2 (hc0.trans hf)
  have en : (s.toList == []) = false := by
    rw [Lib.toList_data]; refine beq_eq_false_iff_ne.2 (fun e => ?_)
    rw [Lib.size_eq, e] at hs0; simp at hs0
  have z0 : (0 : Int) < (s.size : Int) := by omega
  have z1 : decide ((120 : Int) < (s.size : Int)) = false := decide_eq_false (by omega)
  have z2 : decide (120 < s.size) = false := decide_eq_false (by omega)
  have HI := Lib.hid hI0; have H37 := Lib.hid h37; have HS := Lib.hid hs; have HOK := Lib.hid hok
  have HR0 : Aside0 (Kd.string.R 9 (w.alloc (.cells #[] 9)) w.heap.size (fun _ => True) (.slice (some ⟨w.heap.size, 0, none⟩) 0 0) ((texts its).take 0)) := Aside0.mk (Kd.R_of_own (own_lit_of (enc := Value.string) w w.heap.size 9 ([] : List ByteArray) (Nat.le_refl _) (by simp)) (fun _ _ => trivial))
  have HB0 := Aside0.mk (below_alloc (Below.refl w.heap.size w) (.cells #[] 9))
  clear hI0 h37 hs hok hf hc0
  go_enter Tryd.func16, Tryd.ntmps16
  try simp only [List.append_eq, List.cons_append, List.nil_append]
  go_wp2_with fail
  refine (has_not s 37 _ (by omega) H37.out).mono ?_
  rintro e w2 ⟨rfl, rfl⟩
  go_wp2_with fail
  clear z1 z2 em en ec0 hx0
  go_loopw [4, 5, 6] (fun v4 v5 v6 wr => ∃ (v : Value) (k fr i : Nat), v = v4 ∧ v5 = .int .i64 fr ∧ v6 = .int .i64 i ∧ Aside0 (ItemsSt s its k fr i) ∧ Aside0 (Kd.string.R 9 wr w.heap.size (fun _ => True) v ((texts its).take k)) ∧ Aside0 (Below w.heap.size w wr)) (fun _ _ v _ => s.size + 1 - (intOf v).toNat)
  case atStart => exact ⟨_, 0, 1, 1, rfl, rfl, rfl, ⟨.inl ⟨p0, m0, b0, 0, HI.out, Nat.zero_le _, hp0.symm, by omega⟩⟩, HR0, HB0⟩
  case round =>
    obtain ⟨v, k, fr, i, rfl, rfl, rfl, HST, HR, HB⟩ := hrel
    rcases HST.out with ⟨p, m, b, j, hit, hjm, hfp, hi⟩ | ⟨hk, rfl, rfl⟩
    · clear HST
      obtain rfl : p = fr := hfp.symm
      have hpm := hit.hp
      have hbeg := hit.beg
      have d1 : decide ((i : Int) ≤ (s.size : Int)) = true := decide_eq_true (by omega)
      have d1' : decide (i ≤ s.size) = true := decide_eq_true (by omega)
      have HIT := Lib.hid hit
      have Hi := Lib.hid hi
      by_cases hj : j < m
      · have d2 : decide ((i : Int) < (s.size : Int)) = true := decide_eq_true (by omega)
        have d3 : decide (i < s.size) = true := decide_eq_true (by omega)
        have hlt : i < s.size := by omega
        have i0 : (0 : Int) ≤ (i : Int) := by omega
        have i1 : (i : Int) < (s.size : Int) := by omega
        have hx := byt_at s i hlt
        obtain ⟨c, hc⟩ : ∃ c, c = byt s i := ⟨_, rfl⟩
        rw [← hc] at hx
        have hne : (c != 47) = true := bne_iff_ne.2 (by rw [hc, hi]; exact hit.inn j hj)
        clear hc hi hit hbeg
        go_wp2_with fail
        refine ⟨⟨v, k, p, i + 1, rfl, rfl, by go_num, ⟨.inl ⟨p, m, b, j + 1, HIT.out, by omega, rfl, by have := Hi.out; omega⟩⟩, HR, HB⟩, ?_⟩
        simp [intOf]; omega
      · have hjm' : j = m := by omega
        subst hjm'
        have htt := texts_take its k b hit.it
        have HTT := Lib.hid htt
        have hklt : k < its.length := (List.getElem?_eq_some_iff.1 hit.it).1
        clear htt
        have hfin := hit.fin
        have hzero := hit.zero
        have hpos := hit.pos
        clear hit hbeg hj hjm
        rcases hfin with ⟨h1, h2, h3⟩ | ⟨h1, h2⟩
        · have hj0 : 0 < j := by
            rcases Nat.eq_zero_or_pos j with h | h
            · have := (hzero h).2; omega
            · exact h
          have hext := hpos hj0
          rw [← hi] at hext h3
          have d2 : decide ((i : Int) < (s.size : Int)) = true := decide_eq_true (by omega)
          have d3 : decide (i < s.size) = true := decide_eq_true (by omega)
          have d4 : decide ((p : Int) < (i : Int)) = true := decide_eq_true (by omega)
          have d5 : decide (p < i) = true := decide_eq_true (by omega)
          have hlt : i < s.size := by omega
          have i0 : (0 : Int) ≤ (i : Int) := by omega
          have i1 : (i : Int) < (s.size : Int) := by omega
          have i2 : (0 : Int) ≤ (p : Int) := by omega
          have i3 : (p : Int) ≤ (i : Int) := by omega
          have i4 : (i : Int) ≤ (s.size : Int) := by omega
          have hx := byt_at s i hlt
          obtain ⟨c, hc⟩ : ∃ c, c = byt s i := ⟨_, rfl⟩
          rw [← hc] at hx
          have hne : (c != 47) = false := bne_eq_false_iff_eq.2 (hc.trans h3)
          clear hc h3 hi hzero hpos
          go_wp2_with ((with_reducible refine gate_builtin (b := .append) (xs := #[.tmp 43, .tmp 48]) rfl ?_); at_builtin; refine Kd.R_append Kd.string (w0 := w) w.heap.size rfl (.tmp 43) (.tmp 48) 43 9 (.string ⟨#[]⟩) 16 rfl Tryd.underlying43 info9 rfl (by decide) (by omega) v ((texts its).take k) b [.string b] (fun _ => True) (fun _ => False) rfl (by first | (go_simp; done) | (go_simp; rfl)) ?aP (fun _ hk => hk.elim) ?aF ?aO ?aB ?aS ?aL ?_; (case aP => exact rfl); (case aF => exact (fun _ _ => trivial)); (case aO => exact HR.out); (case aB => exact HB.out); (case aS => exact (below_size HB.out)); (case aL => have := List.length_take_le k (texts its); have := texts_len its; omega); intro v2 w2 ho hb2 hg2 hat2; rw [← HTT.out] at ho; have HO2 := Aside0.mk ho; have HB2 := Aside0.mk hb2; clear ho hb2 hg2 hat2)
          refine ⟨⟨v2, k + 1, i + 1, i + 1, rfl, by go_num, by go_num, ⟨by rw [Hi.out]; exact ItemsSt.next HS.out HOK.out HIT.out⟩, HO2, HB2⟩, ?_⟩
          simp [intOf]; omega
        · have d2 : decide ((i : Int) < (s.size : Int)) = false := decide_eq_false (by omega)
          have d3 : decide (i < s.size) = false := decide_eq_false (by omega)
          have i0 : (0 : Int) ≤ (i : Int) := by omega
          have i2 : (0 : Int) ≤ (p : Int) := by omega
          have i3 : (p : Int) ≤ (i : Int) := by omega
          have i4 : (i : Int) ≤ (s.size : Int) := by omega
          by_cases hj0 : 0 < j
          · have hext := hpos hj0
            rw [← hi] at hext
            have d4 : decide ((p : Int) < (i : Int)) = true := decide_eq_true (by omega)
            have d5 : decide (p < i) = true := decide_eq_true (by omega)
            clear hzero hpos hi
            go_wp2_with ((with_reducible refine gate_builtin (b := .append) (xs := #[.tmp 43, .tmp 48]) rfl ?_); at_builtin; refine Kd.R_append Kd.string (w0 := w) w.heap.size rfl (.tmp 43) (.tmp 48) 43 9 (.string ⟨#[]⟩) 16 rfl Tryd.underlying43 info9 rfl (by decide) (by omega) v ((texts its).take k) b [.string b] (fun _ => True) (fun _ => False) rfl (by first | (go_simp; done) | (go_simp; rfl)) ?aP (fun _ hk => hk.elim) ?aF ?aO ?aB ?aS ?aL ?_; (case aP => exact rfl); (case aF => exact (fun _ _ => trivial)); (case aO => exact HR.out); (case aB => exact HB.out); (case aS => exact (below_size HB.out)); (case aL => have := List.length_take_le k (texts its); have := texts_len its; omega); intro v2 w2 ho hb2 hg2 hat2; rw [← HTT.out] at ho; have HO2 := Aside0.mk ho; have HB2 := Aside0.mk hb2; clear ho hb2 hg2 hat2)
            refine ⟨⟨v2, k + 1, i + 1, i + 1, rfl, by go_num, by go_num, ⟨by rw [Hi.out]; exact ItemsSt.next HS.out HOK.out HIT.out⟩, HO2, HB2⟩, ?_⟩
            simp [intOf]; omega
          · have hb47 := (hzero (by omega)).1
            have hb : b = ⟨#[47]⟩ := str_eq hb47
            have d4 : decide ((p : Int) < (i : Int)) = false := decide_eq_false (by omega)
            have d5 : decide (p < i) = false := decide_eq_false (by omega)
            have d6 : ((i : Int) == (s.size : Int)) = true := beq_iff_eq.2 (by omega)
            clear hzero hpos hi hb47
            subst hb
            go_wp2_with ((with_reducible refine gate_builtin (b := .append) (xs := #[.tmp 54, .tmp 55]) rfl ?_); at_builtin; refine Kd.R_append Kd.string (w0 := w) w.heap.size rfl (.tmp 54) (.tmp 55) 43 9 (.string ⟨#[]⟩) 16 rfl Tryd.underlying43 info9 rfl (by decide) (by omega) v ((texts its).take k) (⟨#[47]⟩ : ByteArray) [.string ⟨#[47]⟩] (fun _ => True) (fun _ => False) rfl (by first | (go_simp; done) | (go_simp; rfl)) ?aP (fun _ hk => hk.elim) ?aF ?aO ?aB ?aS ?aL ?_; (case aP => exact rfl); (case aF => exact (fun _ _ => trivial)); (case aO => exact HR.out); (case aB => exact HB.out); (case aS => exact (below_size HB.out)); (case aL => have := List.length_take_le k (texts its); have := texts_len its; omega); intro v2 w2 ho hb2 hg2 hat2; rw [← HTT.out] at ho; have HO2 := Aside0.mk ho; have HB2 := Aside0.mk hb2; clear ho hb2 hg2 hat2)
            refine ⟨⟨v2, k + 1, i + 1, i + 1, rfl, by go_num, by go_num, ⟨by rw [Hi.out]; exact ItemsSt.next HS.out HOK.out HIT.out⟩, HO2, HB2⟩, ?_⟩
            simp [intOf]; omega
    · have d1 : decide (((s.size + 1 : Nat) : Int) ≤ (s.size : Int)) = false := decide_eq_false (by omega)
      clear HST
      go_wp2_with fail
      go_ret2
      refine ⟨v, rfl, ?_, HB.out⟩
      have hr := HR.out
      rw [List.take_of_length_le (by rw [texts_len]; omega)] at hr
      exact hr
end Go.Proofs.YtmkbkpeccddejaaDoor
