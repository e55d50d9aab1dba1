/- Plain Lean: what a good pattern is, and what its written pieces look like. -/
import Derived.Test.YtmkbkpeccddejaaDoorB1
import Derived.Test.YtmkbkpeccddejaaDoorA1
import Derived.Test.YtmkbkpeccddejaaDoorA2
import Derived.Lib.Bytealg
namespace Go.Proofs.YtmkbkpeccddejaaDoor
open Go.Lib PFnDifference

theorem idx_none (c : UInt8) : ∀ l : List UInt8, c ∉ l → indexByte l c = -1
  | [], _ => rfl
  | b :: l, h => by
    have hb : b ≠ c := fun e => h (by simp [e])
    have ih := idx_none c l (fun e => h (by simp [e]))
    simp [indexByte, hb, ih]
theorem idx_at (c : UInt8) (t : List UInt8) : ∀ a : List UInt8, c ∉ a → indexByte (a ++ c :: t) c = a.length
  | [], _ => by simp [indexByte]
  | b :: a, h => by
    have hb : b ≠ c := fun e => h (by simp [e])
    have ih := idx_at c t a (fun e => h (by simp [e]))
    simp only [List.cons_append, indexByte, beq_iff_eq, hb, if_false, ih]
    rw [if_neg (by omega)]
    simp

/-- A name: what the reference asks of one. -/
def NameP (s : ByteArray) : Prop := 0 < s.size ∧ ∀ k, k < s.size → nameC k (byt s k)
/-- A literal: what the reference asks of one. -/
def LitP (s : ByteArray) : Prop := s.toList ≠ [] ∧ s.toList ≠ [46] ∧ s.toList ≠ [46, 46] ∧ s.size ≤ 16 ∧ ∀ k, k < s.size → litC (byt s k)
/-- The five kinds of pieces: a slash at the end, a wildcard for all that is left, a wildcard for one piece, the end, a literal. -/
inductive Kind (x : S42) (last : Prop) : Prop where
  | slash : x.f0.data.toList = [] → x.f1 = true → x.f2 = true → last → Kind x last
  | multi : NameP x.f0 → x.f1 = true → x.f2 = true → last → Kind x last
  | wild : NameP x.f0 → x.f1 = true → x.f2 = false → Kind x last
  | stop : x.f0.data.toList = [47] → x.f1 = false → x.f2 = false → last → Kind x last
  | lit : LitP x.f0 → x.f1 = false → x.f2 = false → Kind x last
/-- A good list of pieces. -/
structure GoodL (l : List S42) : Prop where
  pos : 0 < l.length
  six : l.length ≤ 6
  kind : ∀ (i : Nat) (x : S42), l[i]? = some x → x.f0.size ≤ 16 ∧ Kind x (i + 1 = l.length)
  apart : ∀ (i j : Nat) (x y : S42), j < i → l[i]? = some x → l[j]? = some y → x.f1 = true → y.f1 = true → x.f0.toList ≠ y.f0.toList

/-- A byte of a list is a byte at a place. -/
theorem mem_byt {s : ByteArray} {c : UInt8} (h : c ∈ s.data.toList) : ∃ k, k < s.size ∧ byt s k = (c.toNat : Int) := by
  obtain ⟨k, hk, he⟩ := List.getElem_of_mem h
  have hk' : k < s.size := by rw [size_eq]; exact hk
  refine ⟨k, hk', ?_⟩
  rw [← byt_at s k hk']
  have : s[k] = c := by rw [← he]; rfl
  rw [this]
theorem not_mem_of {s : ByteArray} {P : Int → Prop} (h : ∀ k, k < s.size → P (byt s k)) {c : UInt8} (hc : ¬ P (c.toNat : Int)) : c ∉ s.data.toList := fun hm => by
  obtain ⟨k, hk, he⟩ := mem_byt hm
  exact hc (he ▸ h k hk)
theorem NameP.no {s : ByteArray} (h : NameP s) {c : UInt8} (hc : c = 47 ∨ c = 46 ∨ c = 36 ∨ c = 123 ∨ c = 125 ∨ c = 37 ∨ c = 32) : c ∉ s.data.toList := fun hm => by
  obtain ⟨k, hk, he⟩ := mem_byt hm
  have := h.2 k hk
  rw [he] at this
  unfold nameC at this
  rcases hc with rfl | rfl | rfl | rfl | rfl | rfl | rfl <;> simp at this
theorem LitP.no {s : ByteArray} (h : LitP s) {c : UInt8} (hc : c = 47 ∨ c = 123 ∨ c = 125 ∨ c = 37 ∨ c = 32 ∨ c = 9) : c ∉ s.data.toList := fun hm => by
  obtain ⟨k, hk, he⟩ := mem_byt hm
  have := h.2.2.2.2 k hk
  rw [he] at this
  unfold litC at this
  rcases hc with rfl | rfl | rfl | rfl | rfl | rfl <;> simp at this
theorem NameP.ne {s : ByteArray} (h : NameP s) : s.data.toList ≠ [] := fun e => by
  have := h.1
  rw [size_eq, e] at this
  simp at this
theorem LitP.ne {s : ByteArray} (h : LitP s) : s.data.toList ≠ [] := by rw [← toList_data]; exact h.1
theorem LitP.pos {s : ByteArray} (h : LitP s) : 0 < s.size := by rw [size_eq]; exact List.length_pos_iff.2 h.ne

section
variable {x : S42} {last : Prop}
theorem segL_slash (h : x.f0.data.toList = []) (h2 : x.f2 = true) : segL x = [] := by simp [segL, h, h2]
theorem segL_multi (h : NameP x.f0) (h2 : x.f2 = true) : segL x = 123 :: (x.f0.data.toList ++ [46, 46, 46, 125]) := by simp [segL, h.ne, h2]
theorem segL_wild (h1 : x.f1 = true) (h2 : x.f2 = false) : segL x = 123 :: (x.f0.data.toList ++ [125]) := by simp [segL, h1, h2]
theorem segL_stop (h : x.f0.data.toList = [47]) (h1 : x.f1 = false) (h2 : x.f2 = false) : segL x = [123, 36, 125] := by simp [segL, h, h1, h2]
theorem segL_lit (h : LitP x.f0) (h1 : x.f1 = false) (h2 : x.f2 = false) : segL x = x.f0.data.toList := by
  have : x.f0.data.toList ≠ [47] := fun e => h.no (c := 47) (.inl rfl) (by simp [e])
  simp [segL, this, h1, h2]
/-- No slash in a written piece. -/
theorem Kind.noslash (h : Kind x last) : (47 : UInt8) ∉ segL x := by
  cases h with
  | slash h0 h1 h2 _ => rw [segL_slash h0 h2]; simp
  | multi h0 h1 h2 _ => rw [segL_multi h0 h2]; have := h0.no (c := 47) (.inl rfl); simp [this]
  | wild h0 h1 h2 => rw [segL_wild h1 h2]; have := h0.no (c := 47) (.inl rfl); simp [this]
  | stop h0 h1 h2 _ => rw [segL_stop h0 h1 h2]; simp
  | lit h0 h1 h2 => rw [segL_lit h0 h1 h2]; exact h0.no (.inl rfl)
/-- A written piece is clean, or the slash at the end. -/
theorem Kind.clean (h : Kind x last) : (segL x = [] ∧ last) ∨ CleanPiece (segL x) := by
  have hs := h.noslash
  cases h with
  | slash h0 h1 h2 hl => exact .inl ⟨segL_slash h0 h2, hl⟩
  | multi h0 h1 h2 _ => rw [segL_multi h0 h2] at hs ⊢; exact .inr ⟨by simp, by simp, by simp, hs⟩
  | wild h0 h1 h2 => rw [segL_wild h1 h2] at hs ⊢; exact .inr ⟨by simp, by simp, by simp, hs⟩
  | stop h0 h1 h2 _ => rw [segL_stop h0 h1 h2] at hs ⊢; exact .inr ⟨by simp, by simp, by simp, hs⟩
  | lit h0 h1 h2 => rw [segL_lit h0 h1 h2] at hs ⊢; exact .inr ⟨h0.ne, by rw [← toList_data]; exact h0.2.1, by rw [← toList_data]; exact h0.2.2.1, hs⟩
end

/-- A text with given bytes. -/
theorem mk_size (l : List UInt8) : (⟨l.toArray⟩ : ByteArray).size = l.length := by rw [size_eq]
theorem ext_from (s : ByteArray) (a : Nat) : (s.extract a s.size).data.toList = s.data.toList.drop a := by
  rw [extract_data, size_eq, ← List.length_drop, List.take_length]
theorem ext_to (s : ByteArray) (a : Nat) : (s.extract 0 a).data.toList = s.data.toList.take a := by
  rw [extract_data]; simp

/-- A text of a piece and more, cut. -/
theorem cut_facts (r : ByteArray) (x : S42) (t : List S42) (hr : r.data.toList = restL (x :: t)) :
    ∃ r1 sg r2 : ByteArray, r.extract 1 r.size = r1 ∧ r1.data.toList = segL x ++ restL t ∧ r1.extract 0 sg.size = sg ∧ sg.data.toList = segL x ∧ r1.extract sg.size r1.size = r2 ∧ r2.data.toList = restL t ∧ r1.size = sg.size + r2.size ∧ 0 < r.size ∧ r.size = r1.size + 1 := by
  rw [restL_cons] at hr
  have h1 : (r.extract 1 r.size).data.toList = segL x ++ restL t := by rw [ext_from, hr]; rfl
  obtain ⟨r1, e1⟩ : ∃ r1, r.extract 1 r.size = r1 := ⟨_, rfl⟩
  rw [e1] at h1
  have h2 : (r1.extract 0 (segL x).length).data.toList = segL x := by rw [ext_to, h1]; simp
  obtain ⟨sg, e2⟩ : ∃ sg, r1.extract 0 (segL x).length = sg := ⟨_, rfl⟩
  rw [e2] at h2
  have z2 : sg.size = (segL x).length := by rw [size_eq, h2]
  have h3 : (r1.extract sg.size r1.size).data.toList = restL t := by rw [ext_from, h1, z2]; simp
  obtain ⟨r2, e3⟩ : ∃ r2, r1.extract sg.size r1.size = r2 := ⟨_, rfl⟩
  rw [e3] at h3
  have z1 : r1.size = (segL x).length + (restL t).length := by rw [size_eq, h1, List.length_append]
  have z3 : r2.size = (restL t).length := by rw [size_eq, h3]
  have z0 : r.size = (segL x).length + (restL t).length + 1 := by rw [size_eq, hr]; simp
  exact ⟨r1, sg, r2, e1, h1, by rw [z2]; exact e2, h2, e3, h3, by omega, by omega, by omega⟩

/-- The next slash, if there is a next piece. -/
theorem slash_mid {sg r1 : ByteArray} {x y : S42} {t : List S42} (h1 : r1.data.toList = segL x ++ restL (y :: t)) (h2 : sg.data.toList = segL x) (hx : (47 : UInt8) ∉ segL x) : indexByte r1.data.toList 47 = sg.size := by
  rw [h1, restL_cons, idx_at 47 _ _ hx, size_eq, h2]
theorem slash_end {r1 : ByteArray} {x : S42} (h1 : r1.data.toList = segL x ++ restL []) (hx : (47 : UInt8) ∉ segL x) : indexByte r1.data.toList 47 = -1 := by
  rw [h1, restL_nil, List.append_nil, idx_none 47 _ hx]
end Go.Proofs.YtmkbkpeccddejaaDoor
