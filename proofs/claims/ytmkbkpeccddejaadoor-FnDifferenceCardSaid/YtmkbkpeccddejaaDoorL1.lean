/- The plain law, its three parts: the pieces are such that a path may have them; the first pattern matches them; the second one doesn't. -/
import Derived.Test.YtmkbkpeccddejaaDoorL0
namespace Go.Proofs.YtmkbkpeccddejaaDoor
open PFnDifference
open Go.Lib
set_option linter.unusedVariables false
set_option linter.unusedSimpArgs false

theorem okIts_map : ∀ (l : List S42), Tl l → OkIts (l.map itemS)
  | [], _ => trivial
  | x :: l, .cons hz hk ht => by
    refine ⟨?_, okIts_map l ht⟩
    rcases hk.item hz with h | ⟨h, e⟩
    · exact .inl h
    · exact .inr ⟨h, by rw [e]; rfl⟩
theorem rel_stop {x y : S42} (h2 : x.f2 = false) (h1 : x.f1 = false) (h : x.f0.data.toList = [47]) (hy2 : y.f2 = false) (hd : rel x y ≠ .dj) : y.f1 = false ∧ y.f0.data.toList = [47] := by
  unfold rel at hd
  rw [if_neg (by rw [h2]; simp), if_neg (by rw [h2]; simp), if_neg (by rw [hy2]; simp), if_neg (by rw [h1]; simp), if_neg (by rw [h1]; simp)] at hd
  cases hy1 : y.f1 with
  | true => rw [if_pos hy1, if_pos h] at hd; exact absurd rfl hd
  | false =>
    rw [if_neg (by rw [hy1]; simp)] at hd
    refine ⟨rfl, ?_⟩
    by_cases e : x.f0.data.toList = y.f0.data.toList
    · rw [← e]; exact h
    · rw [if_neg e] at hd; exact absurd rfl hd
theorem okIts_diff : ∀ (l1 l2 : List S42), Tl l1 → Tl l2 → NoDj l1 l2 → OkIts (diffI l1 l2)
  | [], ys, _, hy, _ => okIts_map ys hy
  | x :: xs, [], hx, _, _ => okIts_map (x :: xs) hx
  | x :: xs, y :: ys, .cons hzx hkx htx, .cons hzy hky hty, hd => by
    unfold diffI
    by_cases hx : x.f2 = true
    · rw [if_pos hx]
      by_cases hy : y.f2 = true
      · rw [if_pos hy]; exact ⟨.inr ⟨rfl, rfl⟩, trivial⟩
      · rw [if_neg hy]
        by_cases h47 : y.f0.data.toList = [47]
        · rw [if_pos h47]
          by_cases h0 : x.f0.data.toList = []
          · rw [if_pos h0]; exact ⟨.inl ⟨by simp, by decide, by decide, by simp⟩, trivial⟩
          · rw [if_neg h0]
            have hx47 : x.f0.data.toList ≠ [47] := fun e => by
              cases hkx with
              | slash a b c d => exact h0 a
              | multi a b c d => exact a.no (c := 47) (.inl rfl) (by rw [e]; simp)
              | wild a b c => rw [c] at hx; cases hx
              | stop a b c d => rw [c] at hx; cases hx
              | lit a b c => rw [c] at hx; cases hx
            obtain ⟨g1, g2, g3, g4⟩ := hkx.own hzx h0 hx47
            exact ⟨.inl ⟨g1, g2, g3, by omega⟩, trivial⟩
        · rw [if_neg h47]; exact ⟨.inr ⟨rfl, rfl⟩, trivial⟩
    · rw [if_neg hx]
      have hx2 : x.f2 = false := by cases h : x.f2 <;> simp_all
      refine ⟨?_, okIts_diff xs ys htx hty hd.tail⟩
      unfold stepI
      by_cases ht : Tweak x y
      · rw [if_pos ht]
        have hne : x.f0.data.toList ≠ [47] := hkx.wild_name ht.1 hx2
        have hn0 : x.f0.data.toList ≠ [] := by
          cases hkx with
          | slash a b c d => exact absurd c hx
          | multi a b c d => exact a.ne
          | wild a b c => exact a.ne
          | stop a b c d => rw [a]; simp
          | lit a b c => exact a.ne
        have e := ht.2.2.2
        obtain ⟨g1, g2, g3, g4⟩ := hky.own hzy (e ▸ hn0) (e ▸ hne)
        refine .inl ⟨by simp, ?_, ?_, by simp; simpa using g4⟩
        · simp only [List.mem_append, List.mem_singleton]; rintro (h | h); exact g2 h; cases h
        · simp only [List.mem_append, List.mem_singleton]; rintro (h | h); exact g3 h; cases h
      · rw [if_neg ht]
        rcases hkx.item hzx with h | ⟨h, e⟩
        · exact .inl h
        · refine .inr ⟨h, ?_⟩
          subst e
          -- the first pattern ends here: so does the second one
          have hx47 : x.f0.data.toList = [47] := by unfold itemS at h; rw [if_neg hx] at h; exact h
          have hx1 : x.f1 = false := by
            cases hc : x.f1 with
            | false => rfl
            | true => exact absurd hx47 (hkx.wild_name hc hx2)
          have hys : ys = [] := by
            cases hy2 : y.f2 with
            | true => exact hky.multi_last hy2
            | false => exact hky.stop_last (rel_stop hx2 hx1 hx47 hy2 hd.head).2
          rw [hys]; rfl

/-- The first pattern matches. -/
theorem match_self : ∀ (l : List S42), Tl l → matchB l (l.map itemS) = true
  | [], _ => rfl
  | x :: l, .cons hz hk ht => by
    rw [List.map_cons]
    unfold matchB
    by_cases h2 : x.f2 = true
    · rw [if_pos h2]
    · rw [if_neg h2]
      have hx2 : x.f2 = false := by cases h : x.f2 <;> simp_all
      by_cases h1 : x.f1 = true
      · rw [if_pos h1, if_neg, match_self l ht]
        unfold itemS
        rw [if_neg h2]
        exact hk.wild_name h1 hx2
      · rw [if_neg h1, if_pos, match_self l ht]
        unfold itemS
        rw [if_neg h2]
theorem match_first : ∀ (l1 l2 : List S42), Tl l1 → Tl l2 → (l2.length ≤ l1.length ∨ ∃ x ∈ l1, x.f2 = true) → matchB l1 (diffI l1 l2) = true
  | [], [], _, _, _ => rfl
  | [], y :: ys, _, _, h => by
    rcases h with h | ⟨x, hx, _⟩
    · simp at h
    · simp at hx
  | x :: xs, [], hx, _, _ => match_self (x :: xs) hx
  | x :: xs, y :: ys, .cons hzx hkx htx, .cons hzy hky hty, h => by
    unfold diffI
    by_cases hx : x.f2 = true
    · rw [if_pos hx]
      by_cases hy : y.f2 = true
      · rw [if_pos hy]; unfold matchB; rw [if_pos hx]
      · rw [if_neg hy]
        by_cases h47 : y.f0.data.toList = [47]
        · rw [if_pos h47]
          by_cases h0 : x.f0.data.toList = []
          · rw [if_pos h0]; unfold matchB; rw [if_pos hx]
          · rw [if_neg h0]; unfold matchB; rw [if_pos hx]
        · rw [if_neg h47]; unfold matchB; rw [if_pos hx]
    · rw [if_neg hx]
      have hx2 : x.f2 = false := by cases h : x.f2 <;> simp_all
      have ih := match_first xs ys htx hty (by
        rcases h with h | ⟨z, hz, h⟩
        · left; simpa using h
        · right
          rcases List.mem_cons.1 hz with rfl | hz
          · exact absurd h hx
          · exact ⟨z, hz, h⟩)
      unfold matchB
      rw [if_neg hx, ih]
      unfold stepI
      by_cases ht : Tweak x y
      · rw [if_pos ht, if_pos ht.1, if_neg]
        intro e
        have h1 := congrArg List.length e
        have hl : y.f0.data.toList = [] := List.eq_nil_of_length_eq_zero (by simpa using h1)
        have h2 := ht.2.2.2
        rw [hl] at h2
        cases hkx with
        | slash a b c d => exact hx c
        | multi a b c d => exact hx c
        | wild a b c => exact a.ne h2
        | stop a b c d => rw [a] at h2; cases h2
        | lit a b c => exact a.ne h2
      · rw [if_neg ht]
        unfold itemS
        rw [if_neg hx]
        by_cases h1 : x.f1 = true
        · rw [if_pos h1, if_neg (hkx.wild_name h1 hx2)]
        · rw [if_neg h1, if_pos rfl]

/-- The second pattern doesn't. -/
theorem match_second : ∀ (l1 l2 : List S42), Tl l1 → Tl l2 → NoDj l1 l2 → (∃ (i : Nat) (x y : S42), l1[i]? = some x ∧ l2[i]? = some y ∧ rel x y = .mg) → matchB l2 (diffI l1 l2) = false
  | [], _, _, _, _, ⟨i, x, y, h, _⟩ => by simp at h
  | x :: xs, [], _, _, _, ⟨i, u, v, _, h, _⟩ => by simp at h
  | x :: xs, y :: ys, .cons hzx hkx htx, .cons hzy hky hty, hd, hm => by
    have htail : rel x y ≠ .mg → ys ≠ [] → matchB ys (diffI xs ys) = false := fun hne _ => by
      refine match_second xs ys htx hty hd.tail ?_
      obtain ⟨i, u, v, hu, hv, he⟩ := hm
      cases i with
      | zero =>
        simp at hu hv
        subst hu hv
        exact absurd he hne
      | succ i => exact ⟨i, u, v, by simpa using hu, by simpa using hv, he⟩
    have hnil : rel x y ≠ .mg → ys ≠ [] := fun hne e => by
      obtain ⟨i, u, v, hu, hv, he⟩ := hm
      cases i with
      | zero =>
        simp at hu hv
        subst hu hv
        exact hne he
      | succ i => rw [e] at hv; simp at hv
    unfold diffI
    by_cases hx : x.f2 = true
    · rw [if_pos hx]
      by_cases hy : y.f2 = true
      · exact absurd (hky.multi_last hy) (hnil (by unfold rel; rw [if_pos ⟨hx, hy⟩]; decide))
      · rw [if_neg hy]
        have hy2 : y.f2 = false := by cases h : y.f2 <;> simp_all
        by_cases h47 : y.f0.data.toList = [47]
        · have hy1 : y.f1 = false := by
            cases hc : y.f1 with
            | false => rfl
            | true => exact absurd h47 (hky.wild_name hc hy2)
          rw [if_pos h47]
          by_cases h0 : x.f0.data.toList = []
          · rw [if_pos h0]; unfold matchB; rw [if_neg hy, if_neg (by rw [hy1]; simp), if_neg (by rw [h47]; decide)]
          · rw [if_neg h0]; unfold matchB; rw [if_neg hy, if_neg (by rw [hy1]; simp), if_neg]
            rw [h47]
            intro e
            cases hkx with
            | slash a b c d => exact h0 a
            | multi a b c d => exact a.no (c := 47) (.inl rfl) (by rw [← e]; simp)
            | wild a b c => rw [c] at hx; cases hx
            | stop a b c d => rw [c] at hx; cases hx
            | lit a b c => rw [c] at hx; cases hx
        · rw [if_neg h47]
          unfold matchB
          rw [if_neg hy]
          by_cases h1 : y.f1 = true
          · rw [if_pos h1, if_pos rfl]
          · rw [if_neg h1, if_neg h47]
    · rw [if_neg hx]
      have hx2 : x.f2 = false := by cases h : x.f2 <;> simp_all
      by_cases hy : y.f2 = true
      · exact absurd (hky.multi_last hy) (hnil (by unfold rel; rw [if_neg (fun h => hx h.1), if_neg hx, if_pos hy]; decide))
      · have hy2 : y.f2 = false := by cases h : y.f2 <;> simp_all
        unfold matchB
        rw [if_neg hy]
        by_cases hx1 : x.f1 = true
        · by_cases hy1 : y.f1 = true
          · have hr : rel x y ≠ .mg := by unfold rel; rw [if_neg (fun h => hx h.1), if_neg hx, if_neg hy, if_pos ⟨hx1, hy1⟩]; decide
            rw [if_pos hy1, htail hr (hnil hr)]
            split <;> rfl
          · have hy1' : y.f1 = false := by cases h : y.f1 <;> simp_all
            rw [if_neg hy1, if_neg]
            unfold stepI
            by_cases ht : Tweak x y
            · rw [if_pos ht]
              intro e
              have := congrArg List.length e
              simp at this
            · rw [if_neg ht]
              unfold itemS
              rw [if_neg hx]
              exact fun e => ht ⟨hx1, hy1', hy2, e.symm⟩
        · have hx1' : x.f1 = false := by cases h : x.f1 <;> simp_all
          have hr : rel x y ≠ .mg := by
            unfold rel
            rw [if_neg (fun h => hx h.1), if_neg hx, if_neg hy, if_neg (fun h => hx1 h.1), if_neg hx1]
            split
            · split <;> decide
            · split <;> decide
          by_cases hy1 : y.f1 = true
          · rw [if_pos hy1, htail hr (hnil hr)]
            split <;> rfl
          · rw [if_neg hy1, htail hr (hnil hr)]
            split <;> rfl

/-! ### how long the path is -/
theorem diffI_len : ∀ (l1 l2 : List S42) (n : Nat), l1.length ≤ n → l2.length ≤ n → (diffI l1 l2).length ≤ n
  | [], ys, n, _, h => by simpa [diffI] using h
  | x :: xs, [], n, h, _ => by simpa [diffI] using h
  | x :: xs, y :: ys, n, h1, h2 => by
    obtain ⟨m, rfl⟩ : ∃ m, n = m + 1 := ⟨n - 1, by simp at h1; omega⟩
    unfold diffI
    have := diffI_len xs ys m (by simpa using h1) (by simpa using h2)
    repeat' split
    all_goals simp
    omega
theorem okIts_len : ∀ (its : List (List UInt8)), OkIts its → (pathB its).length ≤ 18 * its.length
  | [], _ => by simp [pathB]
  | x :: its, ⟨h1, h2⟩ => by
    have ih := okIts_len its h2
    rw [pathB_cons, List.length_cons, List.length_append, List.length_cons]
    have : (if x = [47] then [] else x).length ≤ 17 := by
      split
      · simp
      · rcases h1 with h | ⟨h, _⟩
        · exact h.2.2.2
        · contradiction
    omega
theorem diffI_ne : ∀ (l1 l2 : List S42), 0 < l1.length → diffI l1 l2 ≠ []
  | [], ys, h => by simp at h
  | x :: xs, [], _ => by simp [diffI]
  | x :: xs, y :: ys, _ => by
    unfold diffI
    repeat' split
    all_goals simp
/-- All that the walks want to know. -/
theorem plain_law (l1 l2 : List S42) (h1 : GoodL l1) (h2 : GoodL l2) (hr : RelOK l1 l2) :
    NoClash l1 l2 ∧ diffB l1 l2 = pathB (diffI l1 l2) ∧ OkIts (diffI l1 l2) ∧ diffI l1 l2 ≠ [] ∧ (diffB l1 l2).length ≤ 108 ∧ (diffI l1 l2).length ≤ 6 ∧ matchB l1 (diffI l1 l2) = true ∧ matchB l2 (diffI l1 l2) = false := by
  have t1 := tl_of l1 h1.kind
  have t2 := tl_of l2 h2.kind
  have hd : NoDj l1 l2 := hr.nodj
  have e := diffB_items l1 l2 t1 t2 hd
  have hok := okIts_diff l1 l2 t1 t2 hd
  have hlen := diffI_len l1 l2 6 h1.six h2.six
  have hl2 := okIts_len _ hok
  have hmg : ∃ (i : Nat) (x y : S42), l1[i]? = some x ∧ l2[i]? = some y ∧ rel x y = .mg := by
    rcases hr.some_mg with h | ⟨x, hx, hx2, hlt⟩
    · exact h
    · obtain ⟨y, hy⟩ : ∃ y, l2[l1.length - 1]? = some y := ⟨_, List.getElem?_eq_getElem (by omega)⟩
      refine ⟨l1.length - 1, x, y, hx, hy, ?_⟩
      have hy2 : y.f2 ≠ true := fun h => by
        have := (h2.kind _ y hy).2.multi_last h
        have := h1.pos
        omega
      unfold rel
      rw [if_neg (fun h => hy2 h.2), if_pos hx2]
  exact ⟨hd.noClash, e, hok, diffI_ne l1 l2 h1.pos, by rw [e]; omega, hlen, match_first l1 l2 t1 t2 hr.long, match_second l1 l2 t1 t2 hd hmg⟩
end Go.Proofs.YtmkbkpeccddejaaDoor
