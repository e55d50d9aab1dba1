/- The plain law: the path that is written for two patterns of which the first is the more general one, or overlaps the second, matches the first and not the second. -/
import Derived.Test.YtmkbkpeccddejaaDoorD1
import Derived.Test.YtmkbkpeccddejaaDoorS2
namespace Go.Proofs.YtmkbkpeccddejaaDoor
open PFnDifference
open Go.Lib
set_option linter.unusedVariables false
set_option linter.unusedSimpArgs false

/-- The pieces of the path. -/
def itemS (x : S42) : List UInt8 := if x.f2 = true then [47] else x.f0.data.toList
def stepI (x y : S42) : List UInt8 := if Tweak x y then y.f0.data.toList ++ [120] else itemS x
def diffI : List S42 → List S42 → List (List UInt8)
  | x :: xs, y :: ys =>
    if x.f2 = true then (if y.f2 = true then [[47]] else if y.f0.data.toList = [47] then (if x.f0.data.toList = [] then [[120]] else [x.f0.data.toList]) else [[47]])
    else stepI x y :: diffI xs ys
  | x :: xs, [] => (x :: xs).map itemS
  | [], ys => ys.map itemS
/-- A path, written of its pieces. -/
def pathB (its : List (List UInt8)) : List UInt8 := its.flatMap fun x => 47 :: (if x = [47] then [] else x)
theorem pathB_cons (x : List UInt8) (its : List (List UInt8)) : pathB (x :: its) = 47 :: ((if x = [47] then [] else x) ++ pathB its) := by simp [pathB]
/-- Whether a pattern matches pieces. -/
def matchB : List S42 → List (List UInt8) → Bool
  | [], its => its.isEmpty
  | _ :: _, [] => false
  | x :: xs, it :: its => if x.f2 = true then true else if x.f1 = true then (if it = [47] then false else matchB xs its) else if x.f0.data.toList = it then matchB xs its else false
/-- Pieces that a path may have. -/
def OkIt (x : List UInt8) : Prop := x ≠ [] ∧ (47 : UInt8) ∉ x ∧ (37 : UInt8) ∉ x ∧ x.length ≤ 17
def OkIts : List (List UInt8) → Prop
  | [] => True
  | x :: its => (OkIt x ∨ (x = [47] ∧ its = [])) ∧ OkIts its

/-- A good tail of a pattern: kinds as in a good one. -/
inductive Tl : List S42 → Prop
  | nil : Tl []
  | cons {x : S42} {l : List S42} : x.f0.size ≤ 16 → Kind x (l = []) → Tl l → Tl (x :: l)
theorem Kind.imp {x : S42} {p q : Prop} (h : Kind x p) (hpq : p → q) : Kind x q := by
  cases h with
  | slash a b c d => exact .slash a b c (hpq d)
  | multi a b c d => exact .multi a b c (hpq d)
  | wild a b c => exact .wild a b c
  | stop a b c d => exact .stop a b c (hpq d)
  | lit a b c => exact .lit a b c
theorem tl_of : ∀ (l : List S42), (∀ (i : Nat) (x : S42), l[i]? = some x → x.f0.size ≤ 16 ∧ Kind x (i + 1 = l.length)) → Tl l
  | [], _ => .nil
  | x :: l, h => by
    obtain ⟨h1, h2⟩ := h 0 x rfl
    refine .cons h1 (h2.imp (fun e => ?_)) (tl_of l (fun i y hy => ?_))
    · simp at e
      exact e.symm ▸ rfl
    · obtain ⟨g1, g2⟩ := h (i + 1) y (by simpa using hy)
      exact ⟨g1, g2.imp (fun e => by simpa using e)⟩
theorem Kind.multi_last {x : S42} {p : Prop} (h : Kind x p) (h2 : x.f2 = true) : p := by
  cases h with
  | slash a b c d => exact d
  | multi a b c d => exact d
  | wild a b c => rw [c] at h2; cases h2
  | stop a b c d => exact d
  | lit a b c => rw [c] at h2; cases h2
theorem Kind.stop_last {x : S42} {p : Prop} (h : Kind x p) (h2 : x.f0.data.toList = [47]) : p := by
  cases h with
  | slash a b c d => exact d
  | multi a b c d => exact d
  | wild a b c => exact absurd (show (47 : UInt8) ∈ x.f0.data.toList by rw [h2]; simp) (a.no (.inl rfl))
  | stop a b c d => exact d
  | lit a b c => exact absurd (show (47 : UInt8) ∈ x.f0.data.toList by rw [h2]; simp) (a.no (.inl rfl))
theorem Kind.item {x : S42} {p : Prop} (h : Kind x p) (hz : x.f0.size ≤ 16) : OkIt (itemS x) ∨ (itemS x = [47] ∧ p) := by
  have hz' : x.f0.data.toList.length ≤ 17 := by rw [← size_eq]; omega
  unfold itemS
  cases h with
  | slash a b c d => rw [if_pos c]; exact .inr ⟨rfl, d⟩
  | multi a b c d => rw [if_pos c]; exact .inr ⟨rfl, d⟩
  | wild a b c => rw [if_neg (by rw [c]; simp)]; exact .inl ⟨a.ne, a.no (.inl rfl), a.no (.inr (.inr (.inr (.inr (.inr (.inl rfl)))))), hz'⟩
  | stop a b c d => rw [if_neg (by rw [c]; simp)]; exact .inr ⟨a, d⟩
  | lit a b c => rw [if_neg (by rw [c]; simp)]; exact .inl ⟨a.ne, a.no (.inl rfl), a.no (.inr (.inr (.inr (.inl rfl)))), hz'⟩
/-- A wildcard's name, or a literal, of a pattern's piece that is no slash. -/
theorem Kind.own {x : S42} {p : Prop} (h : Kind x p) (hz : x.f0.size ≤ 16) (h0 : x.f0.data.toList ≠ []) (h47 : x.f0.data.toList ≠ [47]) : x.f0.data.toList ≠ [] ∧ (47 : UInt8) ∉ x.f0.data.toList ∧ (37 : UInt8) ∉ x.f0.data.toList ∧ x.f0.data.toList.length ≤ 16 := by
  have hz' : x.f0.data.toList.length ≤ 16 := by rw [← size_eq]; omega
  cases h with
  | slash a b c d => exact absurd a h0
  | multi a b c d => exact ⟨a.ne, a.no (.inl rfl), a.no (.inr (.inr (.inr (.inr (.inr (.inl rfl)))))), hz'⟩
  | wild a b c => exact ⟨a.ne, a.no (.inl rfl), a.no (.inr (.inr (.inr (.inr (.inr (.inl rfl)))))), hz'⟩
  | stop a b c d => exact absurd a h47
  | lit a b c => exact ⟨a.ne, a.no (.inl rfl), a.no (.inr (.inr (.inr (.inl rfl)))), hz'⟩
theorem Kind.wild_name {x : S42} {p : Prop} (h : Kind x p) (h1 : x.f1 = true) (h2 : x.f2 = false) : x.f0.data.toList ≠ [47] := fun e => by
  cases h with
  | slash a b c d => rw [c] at h2; cases h2
  | multi a b c d => rw [c] at h2; cases h2
  | wild a b c => exact a.no (c := 47) (.inl rfl) (by rw [e]; simp)
  | stop a b c d => rw [b] at h1; cases h1
  | lit a b c => rw [b] at h1; cases h1

/-- What is known of the relationships, place by place. -/
def NoDj (l1 l2 : List S42) : Prop := ∀ (i : Nat) (x y : S42), l1[i]? = some x → l2[i]? = some y → rel x y ≠ .dj
theorem NoDj.tail {x y : S42} {xs ys : List S42} (h : NoDj (x :: xs) (y :: ys)) : NoDj xs ys := fun i a b ha hb => h (i + 1) a b (by simpa using ha) (by simpa using hb)
theorem NoDj.head {x y : S42} {xs ys : List S42} (h : NoDj (x :: xs) (y :: ys)) : rel x y ≠ .dj := h 0 x y rfl rfl
theorem NoDj.noClash {l1 l2 : List S42} (h : NoDj l1 l2) : NoClash l1 l2 := fun i x y hx hy a b c d => by
  have := h i x y hx hy
  unfold rel at this
  rw [if_neg (by rw [b]; simp), if_neg (by rw [b]; simp), if_neg (by rw [d]; simp), if_neg (by rw [a]; simp), if_neg (by rw [a]; simp), if_neg (by rw [c]; simp)] at this
  by_cases e : x.f0.data.toList = y.f0.data.toList
  · exact e
  · rw [if_neg e] at this; exact absurd rfl this

/-! ### what is written are the pieces -/
theorem segW_item (x : S42) : segW x = 47 :: (if itemS x = [47] then [] else itemS x) := by
  unfold segW itemS
  cases hx : x.f2 with
  | true => simp
  | false =>
    by_cases h : x.f0.data.toList = [47]
    · simp [h]
    · simp [h]
theorem segWs_items (l : List S42) : segWs l = pathB (l.map itemS) := by
  induction l with
  | nil => rfl
  | cons x l ih =>
    rw [List.map_cons, pathB_cons, ← ih]
    show segW x ++ segWs l = _
    rw [segW_item]
    rfl
theorem diffB_items : ∀ (l1 l2 : List S42), Tl l1 → Tl l2 → NoDj l1 l2 → diffB l1 l2 = pathB (diffI l1 l2)
  | [], ys, _, _, _ => segWs_items ys
  | x :: xs, [], _, _, _ => segWs_items (x :: xs)
  | x :: xs, y :: ys, .cons hzx hkx htx, .cons hzy hky hty, hd => by
    unfold diffB diffI
    by_cases hx : x.f2 = true
    · rw [if_pos hx, if_pos hx]
      by_cases hy : y.f2 = true
      · rw [if_pos hy, if_pos hy]; rfl
      · rw [if_neg hy, if_neg hy]
        by_cases h47 : y.f0.data.toList = [47]
        · rw [if_pos h47, if_pos h47]
          by_cases h0 : x.f0.data.toList = []
          · rw [if_pos h0, if_pos h0]; rfl
          · rw [if_neg h0, if_neg h0]
            have hx47 : x.f0.data.toList ≠ [47] := fun e => by
              cases hkx with
              | slash a b c d => exact h0 a
              | multi a b c d => exact a.no (c := 47) (.inl rfl) (by rw [e]; simp)
              | wild a b c => rw [c] at hx; cases hx
              | stop a b c d => rw [c] at hx; cases hx
              | lit a b c => rw [c] at hx; cases hx
            rw [pathB_cons, if_neg hx47]
            simp [pathB]
        · rw [if_neg h47, if_neg h47]; rfl
    · rw [if_neg hx, if_neg hx, pathB_cons, diffB_items xs ys htx hty hd.tail]
      show stepB x y ++ _ = 47 :: (_ ++ _)
      rw [← List.cons_append]
      congr 1
      unfold stepB stepI
      by_cases ht : Tweak x y
      · rw [if_pos ht, if_pos ht, if_neg]
        intro e
        have := congrArg List.length e
        have hne := hky
        have hlen : y.f0.data.toList = [] := by
          simp at this
          exact List.eq_nil_of_length_eq_zero (by simpa using this)
        have h1 := ht.2.2.2
        rw [hlen] at h1
        cases hkx with
        | slash a b c d => exact hx c
        | multi a b c d => exact hx c
        | wild a b c => exact a.ne h1
        | stop a b c d => rw [a] at h1; cases h1
        | lit a b c => exact a.ne h1
      · rw [if_neg ht, if_neg ht, segW_item]
end Go.Proofs.YtmkbkpeccddejaaDoor
