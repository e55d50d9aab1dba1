/- The program's parsePattern, at whatever pattern is good and written: one theorem. -/
import Derived.Test.YtmkbkpeccddejaaDoorP1
import Derived.Test.YtmkbkpeccddejaaDoorP2
import Derived.Test.YtmkbkpeccddejaaDoorP3
namespace Go.Proofs.YtmkbkpeccddejaaDoor
open Go.RowKit PFnDifference Go.Proofs.YtmkbkpeccddejaaDoorW.PrintWords Go.Proofs.YtmkbkpeccddejaaDoorW.PrintLast Go.Proofs.YtmkbkpeccddejaaDoorW.PrintMore
open Go.Lib
set_option linter.unusedVariables false
set_option linter.unusedSimpArgs false

/-- What is asked of a pattern. -/
structure GoodP (m h : ByteArray) (l : List S42) : Prop where
  meth : m.size < 12 ∧ ∀ k, k < m.size → methC (byt m k)
  host : h.size < 20 ∧ ∀ k, k < h.size → hostC (byt h k)
  good : GoodL l

/-! ### bytes by lists -/
theorem byt_list (s : ByteArray) (k : Nat) (hk : k < s.size) : ∃ c, s.data.toList[k]? = some c ∧ byt s k = (c.toNat : Int) := by
  refine ⟨s[k], ?_, (byt_at s k hk).symm⟩
  rw [List.getElem?_eq_getElem (by rw [← size_eq]; exact hk)]
  rfl
theorem byt_of_mem {s : ByteArray} {P : Int → Prop} (h : ∀ c ∈ s.data.toList, P (c.toNat : Int)) : ∀ k, k < s.size → P (byt s k) := fun k hk => by
  obtain ⟨c, hc, he⟩ := byt_list s k hk
  rw [he]
  exact h c (List.mem_of_getElem? hc)
theorem mem_of_byt {s : ByteArray} {P : Int → Prop} (h : ∀ k, k < s.size → P (byt s k)) : ∀ c ∈ s.data.toList, P (c.toNat : Int) := fun c hc => by
  obtain ⟨k, hk, he⟩ := mem_byt hc
  exact he ▸ h k hk
theorem byt_get {s : ByteArray} {k : Nat} {c : UInt8} (h : s.data.toList[k]? = some c) : byt s k = (c.toNat : Int) := by
  have hk : k < s.size := by rw [size_eq]; exact (List.getElem?_eq_some_iff.1 h).1
  obtain ⟨d, hd, he⟩ := byt_list s k hk
  rw [h] at hd
  rw [he, Option.some.inj hd]
theorem byt_last {s : ByteArray} {a : List UInt8} {c : UInt8} (h : s.data.toList = a ++ [c]) : byt s (s.size - 1) = (c.toNat : Int) := by
  refine byt_get ?_
  rw [size_eq, h]
  simp

/-! ### what is written is plain -/
def Plain (c : UInt8) : Prop := 32 < c.toNat ∧ c.toNat ≤ 126
theorem plain_lit (c : UInt8) (h : 32 < c.toNat ∧ c.toNat ≤ 126 := by decide) : Plain c := h
theorem NameP.plain {s : ByteArray} (h : NameP s) : ∀ c ∈ s.data.toList, Plain c := fun c hc => by
  obtain ⟨k, hk, he⟩ := mem_byt hc
  have := h.2 k hk
  rw [he] at this
  unfold nameC at this
  unfold Plain
  omega
theorem LitP.plain {s : ByteArray} (h : LitP s) : ∀ c ∈ s.data.toList, Plain c := fun c hc => by
  obtain ⟨k, hk, he⟩ := mem_byt hc
  have := h.2.2.2.2 k hk
  rw [he] at this
  unfold litC at this
  unfold Plain
  omega
theorem Kind.plain {x : S42} {last : Prop} (h : Kind x last) : ∀ c ∈ segL x, Plain c := fun c hc => by
  cases h with
  | slash h0 h1 h2 _ => rw [segL_slash h0 h2] at hc; simp at hc
  | multi h0 h1 h2 _ =>
    rw [segL_multi h0 h2] at hc
    simp only [List.mem_cons, List.mem_append, List.not_mem_nil, or_false] at hc
    rcases hc with rfl | hc | rfl | rfl | rfl | rfl
    · exact plain_lit _
    · exact h0.plain c hc
    all_goals exact plain_lit _
  | wild h0 h1 h2 =>
    rw [segL_wild h1 h2] at hc
    simp only [List.mem_cons, List.mem_append, List.not_mem_nil, or_false] at hc
    rcases hc with rfl | hc | rfl
    · exact plain_lit _
    · exact h0.plain c hc
    · exact plain_lit _
  | stop h0 h1 h2 _ =>
    rw [segL_stop h0 h1 h2] at hc
    simp only [List.mem_cons, List.not_mem_nil, or_false] at hc
    rcases hc with rfl | rfl | rfl <;> exact plain_lit _
  | lit h0 h1 h2 =>
    rw [segL_lit h0 h1 h2] at hc
    exact h0.plain c hc
theorem mem_restL {l : List S42} {c : UInt8} (h : c ∈ restL l) : c = 47 ∨ ∃ x ∈ l, c ∈ segL x := by
  induction l with
  | nil => rw [restL_nil] at h; simp at h
  | cons x l ih =>
    rw [restL_cons] at h
    simp only [List.mem_cons, List.mem_append] at h
    rcases h with h | h | h
    · exact .inl h
    · exact .inr ⟨x, by simp, h⟩
    · rcases ih h with h | ⟨y, hy, h⟩
      · exact .inl h
      · exact .inr ⟨y, by simp [hy], h⟩
theorem GoodL.plain {l : List S42} (h : GoodL l) : ∀ c ∈ restL l, Plain c := fun c hc => by
  rcases mem_restL hc with rfl | ⟨x, hx, hc⟩
  · exact plain_lit _
  · obtain ⟨i, hi, e⟩ := List.getElem_of_mem hx
    exact (h.kind i x (by rw [List.getElem?_eq_getElem hi, e])).2.plain c hc
theorem host_plain {h : ByteArray} (hh : ∀ k, k < h.size → hostC (byt h k)) : ∀ c ∈ h.data.toList, Plain c := fun c hc => by
  have := mem_of_byt (P := hostC) hh c hc
  unfold hostC at this
  unfold Plain
  omega
theorem host_no {h : ByteArray} (hh : ∀ k, k < h.size → hostC (byt h k)) (d : UInt8) (hd : ¬ hostC (d.toNat : Int)) : d ∉ h.data.toList := fun hc => hd (mem_of_byt (P := hostC) hh d hc)
theorem segL_len {x : S42} (h : x.f0.size ≤ 16) : (segL x).length ≤ 21 := by
  have e := size_eq x.f0
  unfold segL
  repeat' split
  all_goals try simp only [List.length_cons, List.length_append, List.length_nil]
  all_goals omega
theorem restL_len : ∀ (l : List S42), (∀ x ∈ l, x.f0.size ≤ 16) → (restL l).length ≤ 22 * l.length
  | [], _ => by simp [restL_nil]
  | x :: l, h => by
    have h1 := segL_len (h x (by simp))
    have h2 := restL_len l (fun y hy => h y (by simp [hy]))
    rw [restL_cons, List.length_cons, List.length_append, List.length_cons]
    omega
theorem GoodL.sizes {l : List S42} (h : GoodL l) : ∀ x ∈ l, x.f0.size ≤ 16 := fun x hx => by
  obtain ⟨i, hi, e⟩ := List.getElem_of_mem hx
  exact (h.kind i x (by rw [List.getElem?_eq_getElem hi, e])).1

/-! ### its path is clean -/
theorem restL_append (a b : List S42) : restL (a ++ b) = restL a ++ restL b := by
  unfold restL
  rw [List.map_append, tailB_append]
theorem GoodL.clean {l : List S42} (h : GoodL l) (r : ByteArray) (hr : r.data.toList = restL l) (W : World) : Calls Tryd.prog 39 #[.string r] W fun e w' => e = .returned (.string r) ∧ Below W.heap.size W w' := by
  rcases List.eq_nil_or_concat l with e | ⟨L, x, e⟩
  · have := h.pos; rw [e] at this; simp at this
  rw [List.concat_eq_append] at e
  have hlen := restL_len l h.sizes
  have hsz : r.size ≤ 2147483647 := by rw [size_eq, hr]; have := h.six; omega
  have hr' := hr
  rw [e, restL_append, restL_cons, restL_nil, List.append_nil] at hr'
  have hl : L.length + 1 = l.length := by rw [e]; simp
  have hkx := (h.kind L.length x (by rw [e]; simp)).2
  have hinit : ∀ q ∈ L.map segL, CleanPiece q := fun q hq => by
    obtain ⟨y, hy, rfl⟩ := List.mem_map.1 hq
    obtain ⟨i, hi, ey⟩ := List.getElem_of_mem hy
    have hk := (h.kind i y (by rw [e, List.getElem?_append_left hi, List.getElem?_eq_getElem hi, ey])).2
    rcases hk.clean with ⟨_, hh⟩ | hh
    · omega
    · exact hh
  have h0 : 0 < r.size := by rw [size_eq, hr', List.length_append, List.length_cons]; omega
  have hf : byt r 0 = 47 := by
    refine byt_get (c := 47) ?_
    rw [hr]
    cases hcl : l with
    | nil => rw [hcl] at hl; simp at hl
    | cons y t => rw [restL_cons]; rfl
  rcases hkx.clean with ⟨hs, _⟩ | hs
  · rw [hs] at hr'
    cases hL : L with
    | nil =>
      rw [hL, restL_nil] at hr'
      have e1 : r.data.toList = [47] := hr'
      exact cleanPath_kept r W hsz h0 hf (by rw [e1]; exact clean_root) (.inr (by rw [toList_data, e1]))
    | cons y t =>
      rw [hL] at hinit
      have hq : restL L = tailB (segL y :: t.map segL) := by rw [hL]; rfl
      have hqne : (⟨(restL L).toArray⟩ : ByteArray).toList ≠ [47] := by
        rw [toList_data, hq, tailB_cons]
        intro hh
        have := (hinit (segL y) (by simp)).1
        simp at hh
        exact this hh.1
      refine cleanPath_slash r ⟨(restL L).toArray⟩ W hsz h0 hf ?_ ?_ (byt_last (c := 47) hr') hqne
      · rw [hr']
        show Pa.clean (restL L ++ [47]) = restL L
        rw [hq]
        exact clean_tail _ _ [47] (.inr rfl) (by simpa using hinit)
      · exact hr'
  · have hall : ∀ q ∈ l.map segL, CleanPiece q := fun q hq => by
      rw [e, List.map_append, List.mem_append] at hq
      rcases hq with hq | hq
      · exact hinit q hq
      · have : q = segL x := by simpa using hq
        rw [this]; exact hs
    have hc : Pa.clean (restL l) = restL l := by
      cases hcl : l with
      | nil => rw [hcl] at hl; simp at hl
      | cons y t =>
        rw [hcl] at hall
        have := clean_tail (segL y) (t.map segL) [] (.inl rfl) (by simpa using hall)
        rw [List.append_nil] at this
        exact this
    refine cleanPath_kept r W hsz h0 hf (by rw [hr]; exact hc) (.inl ?_)
    rcases List.eq_nil_or_concat (segL x) with ep | ⟨p, c, ep⟩
    · exact absurd ep hs.1
    · rw [List.concat_eq_append] at ep
      have e2 : r.data.toList = (restL L ++ 47 :: p) ++ [c] := by rw [hr', ep]; simp
      rw [byt_last e2]
      intro hh
      have : c = 47 := UInt8.toNat_inj.1 (by exact_mod_cast hh)
      exact hs.2.2.2 (by rw [ep, this]; simp)

/-! ### the walk, put together -/
theorem parse_calls (m h s : ByteArray) (l : List S42) (w : World) (hp : GoodP m h l) (hs : s.data.toList = writeL m h l) (hprop : Props w) :
    Calls Tryd.prog 31 #[.string s] w (ParsePost s m h l w) := by
  have hlen := restL_len l hp.good.sizes
  have hsix := hp.good.six
  obtain ⟨r, hr⟩ : ∃ r : ByteArray, r.data.toList = restL l := ⟨⟨(restL l).toArray⟩, rfl⟩
  have hrz : r.size ≤ 132 := by rw [size_eq, hr]; omega
  have hr0 : 0 < r.size := by
    rw [size_eq, hr]
    cases hl : l with
    | nil => have := hp.good.pos; rw [hl] at this; simp at this
    | cons x t => rw [restL_cons]; simp
  have hn47 : (47 : UInt8) ∉ h.data.toList := host_no hp.host.2 47 (by unfold hostC; decide)
  have hn123 : (123 : UInt8) ∉ h.data.toList := host_no hp.host.2 123 (by unfold hostC; decide)
  have hrc : ∃ t, restL l = 47 :: t := by
    cases hl : l with
    | nil => have := hp.good.pos; rw [hl] at this; simp at this
    | cons x t => exact ⟨_, restL_cons x t⟩
  obtain ⟨t, ht⟩ := hrc
  have hhr : ∀ c ∈ h.data.toList ++ restL l, Plain c := fun c hc => by
    rcases List.mem_append.1 hc with hc | hc
    · exact host_plain hp.host.2 c hc
    · exact hp.good.plain c hc
  have hhz := hp.host.1
  have hmz := hp.meth.1
  have i2 : indexByte h.data.toList 123 = -1 := idx_none _ _ hn123
  have i1 : ∀ q : ByteArray, q.data.toList = h.data.toList ++ restL l → indexByte q.data.toList 47 = h.size := fun q hq => by rw [hq, ht, idx_at 47 _ _ hn47, size_eq]
  have cut1 : ∀ q : ByteArray, q.data.toList = h.data.toList ++ restL l → q.extract 0 h.size = h ∧ q.extract h.size q.size = r ∧ q.size = h.size + r.size := fun q hq => by
    refine ⟨str_eq ?_, str_eq ?_, ?_⟩
    · rw [ext_to, hq, size_eq]; simp
    · rw [ext_from, hq, size_eq, hr]; simp
    · rw [size_eq, hq, List.length_append, ← size_eq, ← hr, ← size_eq]
  by_cases hm : m.data.toList = []
  · have em : m = ⟨#[]⟩ := str_eq (by rw [hm])
    subst em
    have hsl : s.data.toList = h.data.toList ++ restL l := by rw [hs]; unfold writeL; rw [if_pos rfl]
    obtain ⟨c1, c2, c3⟩ := cut1 s hsl
    have hpl : ∀ c ∈ s.data.toList, Plain c := by rw [hsl]; exact hhr
    have hb : ∀ j, j < s.size → 32 < byt s j ∧ byt s j ≤ 126 := byt_of_mem (P := fun c => 32 < c ∧ c ≤ 126) (fun c hc => by have := hpl c hc; unfold Plain at this; omega)
    exact parse_none h r s l w (by omega) (by omega) hp.good hprop (fun j hj => by have := hb j hj; omega) (fun j hj => by have := hb j hj; omega) c1 c2 (by omega) hr (by omega) (i1 s hsl) i2
  · have hsl : s.data.toList = m.data.toList ++ 32 :: (h.data.toList ++ restL l) := by rw [hs]; unfold writeL; rw [if_neg hm]; simp
    have hm0 : 0 < m.size := by rw [size_eq]; exact List.length_pos_iff.2 hm
    obtain ⟨r0, hr0l⟩ : ∃ r0 : ByteArray, r0.data.toList = h.data.toList ++ restL l := ⟨⟨(h.data.toList ++ restL l).toArray⟩, rfl⟩
    obtain ⟨c1, c2, c3⟩ := cut1 r0 hr0l
    have hsz : s.size = m.size + 1 + r0.size := by rw [size_eq, hsl, List.length_append, List.length_cons, ← hr0l, ← size_eq, ← size_eq]; omega
    have e1 : s.extract 0 m.size = m := str_eq (by rw [ext_to, hsl, size_eq]; simp)
    have e2 : s.extract (m.size + 1) s.size = r0 := str_eq (by rw [ext_from, hsl, hr0l, size_eq, List.drop_append]; simp)
    have hat : byt s m.size = 32 := byt_get (c := 32) (by rw [hsl, size_eq]; simp)
    have hml : ∀ c ∈ m.data.toList, methC (c.toNat : Int) := mem_of_byt hp.meth.2
    have ha : ∀ j, j < s.size → byt s j < 128 := byt_of_mem (P := fun c => c < 128) (fun c hc => by
      rw [hsl] at hc
      rcases List.mem_append.1 hc with hc | hc
      · have := hml c hc; unfold methC at this; omega
      · rcases List.mem_cons.1 hc with rfl | hc
        · decide
        · have := hhr c hc; unfold Plain at this; omega)
    have hno : ∀ j, j < m.size → byt s j ≠ 32 ∧ byt s j ≠ 9 := fun j hj => by
      obtain ⟨c, hc, he⟩ := byt_list m j hj
      have h1 : s.data.toList[j]? = some c := by rw [hsl, List.getElem?_append_left (by rw [← size_eq]; exact hj)]; exact hc
      rw [byt_get h1]
      have := hml c (List.mem_of_getElem? hc)
      unfold methC at this
      omega
    have hr00 : 0 < r0.size := by omega
    have hrb : 32 < byt r0 0 ∧ byt r0 0 ≤ 126 := byt_of_mem (P := fun c => 32 < c ∧ c ≤ 126) (fun c hc => by rw [hr0l] at hc; have := hhr c hc; unfold Plain at this; omega) 0 hr00
    have g32 : (byt r0 0 == 32) = false := beq_eq_false_iff_ne.2 (by omega)
    have g9 : (byt r0 0 == 9) = false := beq_eq_false_iff_ne.2 (by omega)
    have hmm : ∀ k, k < m.size → (65 ≤ byt m k ∧ byt m k ≤ 90) ∨ (97 ≤ byt m k ∧ byt m k ≤ 122) := hp.meth.2
    cases hcon : (m.toList == [67, 79, 78, 78, 69, 67, 84]) with
    | true => exact parse_conn m h r0 r s l w (by omega) (by omega) hp.good hprop hm0 (by omega) (by omega) hmm hcon ha hno hat e1 e2 hr00 (by omega) (by omega) g32 g9 c1 c2 (by omega) hr (by omega) (i1 r0 hr0l) i2 (fun W => hp.good.clean r hr W)
    | false => exact parse_meth m h r0 r s l w (by omega) (by omega) hp.good hprop hm0 (by omega) (by omega) hmm hcon ha hno hat e1 e2 hr00 (by omega) (by omega) g32 g9 c1 c2 (by omega) hr (by omega) (i1 r0 hr0l) i2 (fun W => hp.good.clean r hr W)
end Go.Proofs.YtmkbkpeccddejaaDoor
