/- The walks of the law's own small functions: the sizes, the pattern of the reference, whether a pattern matches a path. -/
import Derived.Test.YtmkbkpeccddejaaDoorS5
import Derived.Test.YtmkbkpeccddejaaDoorS3
import Derived.Test.YtmkbkpeccddejaaDoorPFnDifferencex1
namespace Go.Proofs.YtmkbkpeccddejaaDoor
open Go.RowKit PFnDifference Go.Proofs.YtmkbkpeccddejaaDoorW.PrintWords Go.Proofs.YtmkbkpeccddejaaDoorW.PrintLast Go.Proofs.YtmkbkpeccddejaaDoorW.PrintMore
set_option linter.unusedVariables false
set_option linter.unusedSimpArgs false

/-! ### the sizes -/
/-- The sizes of which the law speaks. -/
structure Sized (m h : ByteArray) (l : List S47) : Prop where
  meth : m.size ≤ 2147483647
  host : h.size ≤ 2147483647
  segs : l.length ≤ 2147483647
  each : ∀ x ∈ l, x.f0.size ≤ 2147483647
theorem fits2_of (l : List S47) (hl : l.length ≤ 2147483647) : ∀ (f i : Nat), l.length + 1 ≤ f + i → i ≤ l.length → ∃ b, laws_zzFits2.l0 f l (l.length : Int) (i : Int) = some b ∧ (b = true → ∀ j x, i ≤ j → l[j]? = some x → x.f0.size ≤ 2147483647)
  | 0, i, hf, hi => by omega
  | f + 1, i, hf, hi => by
    unfold laws_zzFits2.l0
    by_cases hlt : i < l.length
    · have e : rd_T47 l (i : Int) = l[i] := by unfold rd_T47; simp [List.getD, hlt]
      rw [if_pos (by omega), if_pos (by omega), if_pos (by omega), e]
      unfold laws_zzFits3.f
      by_cases hz : ((l[i].f0.size : Nat) : Int) > 2147483647
      · rw [if_pos hz]
        exact ⟨false, rfl, fun h => by cases h⟩
      · rw [if_neg hz]
        obtain ⟨b, h1, h2⟩ := fits2_of l hl f (i + 1) (by omega) (by omega)
        have ew : wrap64 ((i : Int) + 1) = ((i + 1 : Nat) : Int) := by rw [IntWalk.wrap64_in _ (by omega)]; rfl
        refine ⟨b, ?_, fun hb j x hj hx => ?_⟩
        · rw [Option.bind_some, if_pos rfl, ew, h1]
        · rcases Nat.eq_or_lt_of_le hj with rfl | hj
          · rw [List.getElem?_eq_getElem hlt] at hx
            cases hx
            omega
          · exact h2 hb j x hj hx
    · rw [if_neg (by omega)]
      refine ⟨true, rfl, fun _ j x hj hx => ?_⟩
      have := (List.getElem?_eq_some_iff.1 hx).1
      omega
theorem fits_calls (m h : ByteArray) (A : Option Addr) (c : Nat) (l : List S47) (w : World) (hC : Kd.C k47 w A l.length l) (hc : l.length ≤ c) :
    Calls Tryd.prog 4 #[.agg #[.string m, .string h, .slice A l.length c]] w fun e w' => ∃ b : Bool, e = .returned (.bool b) ∧ (b = true → Sized m h l) ∧ Below w.heap.size w w' := by
  have key : ∃ b, laws_zzFits1.f (l.length + 1) m h l = some b ∧ (b = true → Sized m h l) := by
    unfold laws_zzFits1.f
    by_cases h1 : (m.size : Int) > 2147483647
    · rw [if_pos h1]; exact ⟨false, rfl, fun h => by cases h⟩
    · rw [if_neg h1]
      by_cases h2 : (h.size : Int) > 2147483647
      · rw [if_pos h2]; exact ⟨false, rfl, fun h => by cases h⟩
      · rw [if_neg h2]
        unfold laws_zzFits2.f
        by_cases h3 : (l.length : Int) > 2147483647
        · rw [if_pos h3]; exact ⟨false, rfl, fun h => by cases h⟩
        · rw [if_neg h3]
          obtain ⟨b, e, hb⟩ := fits2_of l (by omega) (l.length + 1) 0 (by omega) (by omega)
          have e' : laws_zzFits2.l0 (l.length + 1) l (l.length : Int) 0 = some b := e
          rw [e']
          cases b with
          | false => exact ⟨false, rfl, fun h => by cases h⟩
          | true => exact ⟨true, rfl, fun _ => ⟨by omega, by omega, by omega, fun x hx => by
              obtain ⟨j, hj, e⟩ := List.getElem_of_mem hx
              exact hb rfl j x (Nat.zero_le _) (by rw [List.getElem?_eq_getElem hj, e])⟩⟩
  obtain ⟨b, hf, hb⟩ := key
  refine (laws_zzFits1.calls _ m h A c l b w hC hc hf).mono ?_
  rintro e w' ⟨he, hB⟩
  exact ⟨b, he, hb, hB⟩

/-! ### the reference's pattern -/
def toS (x : S47) : S42 := ⟨x.f0, x.f1, x.f2⟩
theorem conv_of (l : List S47) (hl : l.length ≤ 2147483647) (a b : ByteArray) : ∀ (f i : Nat) (acc : List S42), l.length + 1 ≤ f + i → i ≤ l.length → acc.length = i → laws_conv.l0 f l (l.length : Int) (i : Int) a b acc = some (a, b, acc ++ (l.drop i).map toS)
  | 0, i, acc, hf, hi, ha => by omega
  | f + 1, i, acc, hf, hi, ha => by
    unfold laws_conv.l0
    by_cases hlt : i < l.length
    · have e : rd_T47 l (i : Int) = l[i] := by unfold rd_T47; simp [List.getD, hlt]
      have ew : wrap64 ((i : Int) + 1) = ((i + 1 : Nat) : Int) := by rw [IntWalk.wrap64_in _ (by omega)]; rfl
      rw [if_pos (by omega), if_pos (by omega), if_pos (by omega), if_pos (by omega), e, ew, conv_of l hl a b f (i + 1) _ (by omega) (by omega) (by rw [List.length_append, ha]; rfl)]
      have hd : l.drop i = l[i] :: l.drop (i + 1) := List.drop_eq_getElem_cons hlt
      rw [hd, List.map_cons, List.append_assoc]
      rfl
    · rw [if_neg (by omega), List.drop_eq_nil_of_le (by omega)]
      simp
theorem conv_calls (m h : ByteArray) (A : Option Addr) (c : Nat) (l : List S47) (w : World) (hl : l.length ≤ 2147483647) (hC : Kd.C k47 w A l.length l) (hc : l.length ≤ c) :
    Calls Tryd.prog 11 #[.agg #[.string m, .string h, .slice A l.length c]] w fun e w' => ∃ v : Value, e = .returned (.agg #[.string m, .string h, v]) ∧ Kd.R k42 42 w' w.heap.size (fun _ => True) v (l.map toS) ∧ Below w.heap.size w w' := by
  have h1 := conv_of l hl m h (l.length + 1) 0 [] (by omega) (by omega) rfl
  exact laws_conv.calls (l.length + 1) m h A c l m h (l.map toS) w hC hc h1

/-! ### a pattern and a path -/
def MatchedPost (r : Bool) (w : World) (e : Ending) (w' : World) : Prop := e = .returned (.tuple #[.bool r, .bool true]) ∧ Below w.heap.size w w'
set_option maxHeartbeats 4000000 in
theorem matched_calls (m h s : ByteArray) (A : Option Addr) (c : Nat) (l : List S42) (its : List (List UInt8)) (w : World) (hl : l.length ≤ 6) (hs : s.data.toList = pathB its) (hok : OkIts its) (hne : 0 < its.length) (h6 : its.length ≤ 100) (hlen : s.size ≤ 120)
    (hC : Kd.C k42 w A l.length l) (hc : l.length ≤ c) :
    Calls Tryd.prog 9 #[.agg #[.string m, .string h, .slice A l.length c], .string s] w (MatchedPost (matchB l its) w) := by
  have hsz : ∀ b ∈ texts its, b.size ≤ 100 := fun b hb => by
    unfold texts at hb
    obtain ⟨x, hx, rfl⟩ := List.mem_map.1 hb
    obtain ⟨i, hi, e⟩ := List.getElem_of_mem hx
    rw [Lib.size_eq]
    show x.length ≤ 100
    rcases okIts_get its i x hok (by rw [List.getElem?_eq_getElem hi, e]) with h | ⟨h, _⟩
    · have := h.2.2.2; omega
    · rw [h]; decide
  have HC := Lib.hid hC; have HS := Lib.hid hs; have HOK := Lib.hid hok; have HSZ := Lib.hid hsz
  obtain ⟨n, hn⟩ : ∃ n, n = l.length := ⟨_, rfl⟩
  have HN := Lib.hid hn
  rw [← hn] at hc ⊢
  have HB0 := Aside0.mk (below_alloc (Below.refl w.heap.size w) (.cells #[.string m, .string h, .slice A n c] 28))
  have HX0 := Aside0.mk (blk_new w (.cells #[.string m, .string h, .slice A n c] 28))
  clear hC hs hok hsz hn
  go_enter Tryd.func9, Tryd.ntmps9
  go_wp2_with fail
  refine (items_calls s its _ HS.out HOK.out hne h6 hlen).mono ?_
  rintro e w1 ⟨v, rfl, hr, hb⟩
  obtain ⟨B, cb, rfl, hcb, hD⟩ := Kd.R_reads hr
  have HD := Lib.hid hD
  have HB1 := Aside0.mk (below_step HB0.out hb)
  have hx1 := blk_below HX0.out hb
  have c0 : w1.cell? ⟨w.heap.size, 0, none⟩ = some (.string m) := (blk_cell hx1 0).trans rfl
  have c1 : w1.cell? ⟨w.heap.size, 1, none⟩ = some (.string h) := (blk_cell hx1 1).trans rfl
  have c2 : w1.cell? ⟨w.heap.size, 2, none⟩ = some (.slice A n c) := (blk_cell hx1 2).trans rfl
  have HC1 := Aside0.mk (Kd.C_below HC.out HB1.out)
  clear hr hb hD hx1
  go_wp2_with fail
  obtain rfl := HN.out
  refine (matches_calls m h A c l B cb its _ hl h6 HSZ.out HC1.out hc HD.out hcb).mono ?_
  rintro e w2 ⟨v2, rfl, hb2⟩
  have HB2 := Aside0.mk (below_step HB1.out hb2)
  clear hb2
  go_wp2_with fail
  go_ret2
  exact ⟨rfl, HB2.out⟩
end Go.Proofs.YtmkbkpeccddejaaDoor
