/- Plain Lean: a path that is written piece by piece, no piece empty or of dots alone, is clean. -/
import Derived.Lib.CleanFns
namespace Go.Proofs.YtmkbkpeccddejaaDoor
open Go.Lib

/-- Each piece behind a slash. -/
def tailB (ps : List (List UInt8)) : List UInt8 := ps.flatMap fun p => 47 :: p
theorem tailB_nil : tailB [] = [] := rfl
theorem tailB_cons (p : List UInt8) (ps : List (List UInt8)) : tailB (p :: ps) = 47 :: (p ++ tailB ps) := by simp [tailB]
theorem tailB_append (a b : List (List UInt8)) : tailB (a ++ b) = tailB a ++ tailB b := by simp [tailB]

/-- A piece that stands for itself in a path. -/
def CleanPiece (p : List UInt8) : Prop := p ≠ [] ∧ p ≠ [46] ∧ p ≠ [46, 46] ∧ (47 : UInt8) ∉ p

/-- What may stand behind a piece. -/
def Ends (t : List UInt8) : Prop := t = [] ∨ ∃ u, t = 47 :: u

theorem takeWhile_piece {p t : List UInt8} (hp : (47 : UInt8) ∉ p) (ht : Ends t) : (p ++ t).takeWhile (· != 47) = p := by
  induction p with
  | nil => rcases ht with rfl | ⟨u, rfl⟩ <;> simp
  | cons a p ih =>
    have ha : a ≠ 47 := fun h => hp (by simp [h])
    have hp' : (47 : UInt8) ∉ p := fun h => hp (by simp [h])
    rw [List.cons_append, List.takeWhile_cons, if_pos (by simpa using ha), ih hp']

theorem step_slash (pre t : List UInt8) (f : Nat) (o : List UInt8) (dd : Nat) :
    Pa.cleanLoop (pre ++ 47 :: t) true (f + 1) o pre.length dd = Pa.cleanLoop (pre ++ 47 :: t) true f o (pre.length + 1) dd := by
  rw [Pa.cleanLoop, if_pos (by simp), if_pos (by simp)]

theorem step_piece (pre p t : List UInt8) (f : Nat) (o : List UInt8) (hp : CleanPiece p) (ht : Ends t) :
    Pa.cleanLoop (pre ++ (p ++ t)) true (f + 1) o pre.length 1 = Pa.cleanLoop (pre ++ (p ++ t)) true f ((if o.length != 1 then o ++ [47] else o) ++ p) (pre.length + p.length) 1 := by
  obtain ⟨h0, h1, h2, h3⟩ := hp
  have hlen : 0 < p.length := List.length_pos_iff.2 h0
  have e0 : (pre ++ (p ++ t))[pre.length]? = p[0]? := by
    rw [List.getElem?_append_right (Nat.le_refl _), Nat.sub_self, List.getElem?_append_left hlen]
  have e1 : (pre ++ (p ++ t))[pre.length + 1]? = (p ++ t)[1]? := by
    rw [List.getElem?_append_right (by omega)]; congr 1; omega
  have e2 : (pre ++ (p ++ t))[pre.length + 2]? = (p ++ t)[2]? := by
    rw [List.getElem?_append_right (by omega)]; congr 1; omega
  have hl : (pre ++ (p ++ t)).length = pre.length + (p.length + t.length) := by simp
  have edrop : (pre ++ (p ++ t)).drop pre.length = p ++ t := by simp
  rw [Pa.cleanLoop, if_pos (by omega), e0, e1, e2, edrop, takeWhile_piece h3 ht, hl]
  cases p with
  | nil => exact absurd rfl h0
  | cons a p =>
    have ha : a ≠ 47 := fun h => h3 (by simp [h])
    rw [if_neg (by simpa using ha)]
    rw [if_neg]
    rw [if_neg]
    · simp
    · rintro ⟨g0, g1, g2⟩
      simp only [List.getElem?_cons_zero, Option.some.injEq] at g0
      subst g0
      cases p with
      | nil =>
        rcases ht with rfl | ⟨u, rfl⟩
        · simp at g1
        · simp at g1
      | cons b p =>
        simp at g1
        subst g1
        cases p with
        | nil => exact h2 rfl
        | cons c p =>
          rcases g2 with g2 | g2
          · simp at g2; omega
          · simp at g2
            exact h3 (by simp [g2])
    · rintro ⟨g0, g1⟩
      simp only [List.getElem?_cons_zero, Option.some.injEq] at g0
      subst g0
      cases p with
      | nil => exact h1 rfl
      | cons b p =>
        rcases g1 with g1 | g1
        · simp at g1; omega
        · simp at g1
          exact h3 (by simp [g1])

theorem loop_end (l : List UInt8) (f : Nat) (o : List UInt8) (r dd : Nat) (h : l.length ≤ r) : Pa.cleanLoop l true f o r dd = o := by
  cases f with
  | zero => rfl
  | succ f => rw [Pa.cleanLoop, if_neg (by omega)]

theorem ends_tail (ps : List (List UInt8)) (z : List UInt8) (hz : z = [] ∨ z = [47]) : Ends (tailB ps ++ z) := by
  cases ps with
  | nil => rcases hz with rfl | rfl; exact .inl rfl; exact .inr ⟨[], rfl⟩
  | cons p ps => exact .inr ⟨_, by rw [tailB_cons]; rfl⟩

theorem loop_tail (ps : List (List UInt8)) (z : List UInt8) (hz : z = [] ∨ z = [47]) (hps : ∀ p ∈ ps, CleanPiece p) :
    ∀ (pre o : List UInt8) (f : Nat), o.length ≠ 1 → (tailB ps ++ z).length ≤ f → Pa.cleanLoop (pre ++ (tailB ps ++ z)) true f o pre.length 1 = o ++ tailB ps := by
  induction ps with
  | nil =>
    intro pre o f ho hf
    rcases hz with rfl | rfl
    · rw [loop_end _ _ _ _ _ (by simp [tailB_nil])]; simp [tailB_nil]
    · obtain ⟨f, rfl⟩ : ∃ g, f = g + 1 := ⟨f - 1, by simp [tailB_nil] at hf; omega⟩
      rw [tailB_nil, List.nil_append, step_slash, loop_end _ _ _ _ _ (by simp)]; simp
  | cons p ps ih =>
    intro pre o f ho hf
    have hp := hps p (by simp)
    have hl : (tailB (p :: ps) ++ z).length = 1 + p.length + (tailB ps ++ z).length := by rw [tailB_cons]; simp; omega
    have hp0 : 0 < p.length := List.length_pos_iff.2 hp.1
    rw [hl] at hf
    obtain ⟨f, rfl⟩ : ∃ g, f = g + 1 + 1 := ⟨f - 2, by omega⟩
    have e : tailB (p :: ps) ++ z = 47 :: (p ++ (tailB ps ++ z)) := by rw [tailB_cons]; simp
    rw [e, step_slash]
    have e2 : pre ++ 47 :: (p ++ (tailB ps ++ z)) = (pre ++ [47]) ++ (p ++ (tailB ps ++ z)) := by simp
    have e3 : pre.length + 1 = (pre ++ [47]).length := by simp
    rw [e2, e3, step_piece _ _ _ _ _ hp (ends_tail ps z hz)]
    have e4 : (pre ++ [47]) ++ (p ++ (tailB ps ++ z)) = ((pre ++ [47]) ++ p) ++ (tailB ps ++ z) := by simp
    have e5 : (pre ++ [47]).length + p.length = ((pre ++ [47]) ++ p).length := by simp; omega
    rw [e4, e5, if_pos (by simpa using ho), ih (fun q hq => hps q (by simp [hq])) _ _ _ (by simp; omega) (by omega)]
    rw [tailB_cons]; simp

theorem clean_tail (p : List UInt8) (ps : List (List UInt8)) (z : List UInt8) (hz : z = [] ∨ z = [47]) (hps : ∀ q ∈ p :: ps, CleanPiece q) : Pa.clean (tailB (p :: ps) ++ z) = tailB (p :: ps) := by
  have hp := hps p (by simp)
  have hp0 : 0 < p.length := List.length_pos_iff.2 hp.1
  have e : tailB (p :: ps) ++ z = [47] ++ (p ++ (tailB ps ++ z)) := by rw [tailB_cons]; simp
  unfold Pa.clean
  rw [e]
  simp only [List.cons_append, List.nil_append, List.cons_ne_nil, if_false, List.head?_cons, beq_self_eq_true, if_true]
  have hlen : (47 :: (p ++ (tailB ps ++ z))).length = (p.length + (tailB ps ++ z).length) + 1 := by simp
  rw [hlen]
  have s1 := step_piece [47] p (tailB ps ++ z) (p.length + (tailB ps ++ z).length) [47] hp (ends_tail ps z hz)
  simp only [List.length_cons, List.length_nil, Nat.zero_add, bne_self_eq_false, Bool.false_eq_true, if_false, List.cons_append, List.nil_append] at s1
  rw [s1]
  have s2 := loop_tail ps z hz (fun q hq => hps q (by simp [hq])) (47 :: p) (47 :: p) (p.length + (tailB ps ++ z).length) (by rw [List.length_cons]; omega) (by omega)
  simp only [List.cons_append, List.length_cons] at s2
  rw [show 1 + p.length = p.length + 1 by omega, s2]
  rw [tailB_cons]; simp

theorem clean_root : Pa.clean [47] = [47] := by decide
end Go.Proofs.YtmkbkpeccddejaaDoor
