/- The walk of the reference's Matches: whether a pattern matches pieces. -/
import Derived.Test.YtmkbkpeccddejaaDoorS4
namespace Go.Proofs.YtmkbkpeccddejaaDoor
open Go.RowKit PFnDifference Go.Proofs.YtmkbkpeccddejaaDoorW.PrintWords Go.Proofs.YtmkbkpeccddejaaDoorW.PrintLast Go.Proofs.YtmkbkpeccddejaaDoorW.PrintMore
set_option linter.unusedVariables false
set_option linter.unusedSimpArgs false

/-- A text of a row is read. -/
theorem atStr {w : World} {B : Option Addr} {n : Nat} {ts : List ByteArray} (h : Kd.string.C w B n ts) (hn : n = ts.length) (k : Nat) (hk : k < n) : ∃ (ad : Addr) (b : ByteArray), B = some ad ∧ ts[k]? = some b ∧ w.cell? (ad.add k) = some (.string b) := by
  subst hn
  obtain ⟨ad, c, e, _, hK, hc0⟩ := Kd.C_get h ⟨#[]⟩ (k : Int) (by omega) (by omega)
  have hK' : c = [.string (ts.getD k ⟨#[]⟩)] := hK
  have hc := hc0 0 (.string (ts.getD k ⟨#[]⟩)) (by rw [hK']; rfl)
  have e1 : (k : Int).toNat * Kd.string.sz + 0 = k := by
    have : Kd.string.sz = 1 := rfl
    rw [this]; omega
  rw [e1] at hc
  refine ⟨ad, ts[k], e, List.getElem?_eq_getElem hk, ?_⟩
  rw [hc]
  simp [List.getD, hk]
theorem cut_texts {B : Option Addr} {n cb k : Nat} {ts : List ByteArray} {w : World} (hn : n = ts.length) (hc : n ≤ cb) (hk : k ≤ n) (hC : Kd.string.C w B n ts) :
    ∃ B' n', (∀ W, (Instr.slice 43 (.slice B n cb) (some (.int .i64 (k : Int))) none none).run Tryd.prog W = .ok (.slice B' n' (cb - k)) W) ∧ n' = (ts.drop k).length ∧ Kd.string.C w B' n' (ts.drop k) := by
  obtain ⟨i, hi, hsz⟩ : ∃ i, Tryd.prog.info? 9 = some i ∧ i.size = 1 := by
    have h := info9
    cases hh : Tryd.prog.info? 9 with
    | none => rw [hh] at h; cases h
    | some i => rw [hh] at h; exact ⟨i, rfl, congrArg (fun t => t.2.1) (Option.some.inj h)⟩
  have h1 := cut_from (P := Tryd.prog) 43 9 .i64 Tryd.underlying43 hi 1 hsz B n cb (k : Int) (by omega) (by omega)
  rw [Int.toNat_natCast] at h1
  subst hn
  have h3 := Kd.C_drop (m := k) (c := cb) hC hk hc
  refine ⟨_, _, h1, by rw [List.length_drop], ?_⟩
  rw [List.length_drop] at h3
  exact h3
theorem matchB_cons (x : S42) (xs : List S42) (it : List UInt8) (its : List (List UInt8)) : matchB (x :: xs) (it :: its) = if x.f2 = true then true else if x.f1 = true then (if it = [47] then false else matchB xs its) else if x.f0.data.toList = it then matchB xs its else false := rfl
theorem texts_get (its : List (List UInt8)) (k : Nat) (b : ByteArray) (h : (texts its)[k]? = some b) : its[k]? = some b.data.toList := by
  unfold texts at h
  rw [List.getElem?_map] at h
  cases hh : its[k]? with
  | none => rw [hh] at h; cases h
  | some l => rw [hh] at h; cases h; rfl
/-- How what is left of the matching goes on. -/
theorem match_step {l : List S42} {its : List (List UInt8)} {k : Nat} {x : S42} {b : ByteArray} (hx : l[k]? = some x) (hb : (texts its)[k]? = some b) :
    matchB (l.drop k) (its.drop k) = if x.f2 = true then true else if x.f1 = true then (if b.data.toList = [47] then false else matchB (l.drop (k + 1)) (its.drop (k + 1))) else if x.f0.data.toList = b.data.toList then matchB (l.drop (k + 1)) (its.drop (k + 1)) else false := by
  obtain ⟨h1, e1⟩ := List.getElem?_eq_some_iff.1 hx
  obtain ⟨h2, e2⟩ := List.getElem?_eq_some_iff.1 (texts_get its k b hb)
  rw [List.drop_eq_getElem_cons h1, List.drop_eq_getElem_cons h2, e1, e2, matchB_cons]
theorem match_short {l : List S42} {its : List (List UInt8)} {k : Nat} {x : S42} (hx : l[k]? = some x) (hk : its.length ≤ k) : matchB (l.drop k) (its.drop k) = false := by
  obtain ⟨h1, e1⟩ := List.getElem?_eq_some_iff.1 hx
  rw [List.drop_eq_getElem_cons h1, List.drop_eq_nil_of_le hk]
  rfl
def MatchPost (r : Bool) (w : World) (e : Ending) (w' : World) : Prop := ∃ v, e = .returned (.tuple #[v, .bool r]) ∧ Below w.heap.size w w'
set_option maxHeartbeats 8000000 in
set_option maxRecDepth 100000 in
theorem matches_calls (m h : ByteArray) (A : Option Addr) (c : Nat) (l : List S42) (B : Option Addr) (cb : Nat) (its : List (List UInt8)) (w : World) (hl : l.length ≤ 6) (hi : its.length ≤ 100) (hsz : ∀ b ∈ texts its, b.size ≤ 100)
    (hC : Kd.C k42 w A l.length l) (hc : l.length ≤ c) (hD : Kd.string.C w B (texts its).length (texts its)) (hcb : (texts its).length ≤ cb) :
    Calls Tryd.prog 17 #[.agg #[.string m, .string h, .slice A l.length c], .slice B (texts its).length cb] w (MatchPost (matchB l its) w) := by
  have HC := Lib.hid hC; have HD := Lib.hid hD; have HSZ := Lib.hid hsz
  clear hC hD hsz
  obtain ⟨n, hn⟩ : ∃ n, n = l.length := ⟨_, rfl⟩
  obtain ⟨t, ht⟩ : ∃ t, t = (texts its).length := ⟨_, rfl⟩
  rw [← hn] at hl hc ⊢
  rw [← ht] at hcb ⊢
  have hti : t ≤ 100 := by rw [ht, texts_len]; exact hi
  have HN := Lib.hid hn; have HT := Lib.hid ht
  clear hn ht hi
  have HB0 := Aside0.mk (below_alloc (below_alloc (Below.refl w.heap.size w) (.cells #[.string m, .string h, .slice A n c] 28)) (.cells #[] 9))
  have HX0 : Aside0 (((w.alloc (.cells #[.string m, .string h, .slice A n c] 28)).alloc (.cells #[] 9)).heap[w.heap.size]? = some (.cells #[.string m, .string h, .slice A n c] 28 (0, 0))) := Aside0.mk (blk_alloc (blk_new w (.cells #[.string m, .string h, .slice A n c] 28)) (.cells #[] 9))
  have HR0 : Aside0 (Kd.string.R 9 ((w.alloc (.cells #[.string m, .string h, .slice A n c] 28)).alloc (.cells #[] 9)) w.heap.size (fun _ => True) (.slice (some ⟨w.heap.size + 1, 0, none⟩) 0 0) ([] : List ByteArray)) := Aside0.mk (by
    have hz : (w.alloc (.cells #[.string m, .string h, .slice A n c] 28)).heap.size = w.heap.size + 1 := by simp
    have := own_lit_of (enc := Value.string) (w.alloc (.cells #[.string m, .string h, .slice A n c] 28)) w.heap.size 9 ([] : List ByteArray) (by omega) (by simp)
    rw [hz] at this
    exact Kd.R_of_own this (fun _ _ => trivial))
  go_enter Tryd.func17, Tryd.ntmps17
  try simp only [List.append_eq, List.cons_append, List.nil_append]
  go_wp2_with fail
  go_loopw [6, 16] (fun v6 v16 wr => ∃ (v : Value) (k : Nat) (xs : List ByteArray), v = v6 ∧ v16 = .int .i64 k ∧ Aside0 (k ≤ n) ∧ Aside0 (k ≤ t) ∧ Aside0 (xs.length ≤ k) ∧ Aside0 (matchB (l.drop k) (its.drop k) = matchB l its) ∧
      Aside0 (Kd.string.R 9 wr w.heap.size (fun _ => True) v xs) ∧ Aside0 (wr.heap[w.heap.size]? = some (.cells #[.string m, .string h, .slice A n c] 28 (0, 0))) ∧ Aside0 (Below w.heap.size w wr)) (fun _ v _ => n - (intOf v).toNat)
  case atStart => exact ⟨_, 0, [], rfl, rfl, ⟨Nat.zero_le _⟩, ⟨Nat.zero_le _⟩, ⟨Nat.le_refl _⟩, ⟨rfl⟩, HR0, HX0, HB0⟩
  case round =>
    clear HX0 HB0 HR0
    obtain ⟨v, k, xs, rfl, rfl, HK, HKT, HXS, HM, HR, HX, HB⟩ := hrel
    obtain ⟨wo, rfl⟩ : ∃ wo, wo = wr := ⟨_, rfl⟩
    by_cases hkl : k < n
    · have d0 : decide ((k : Int) < (n : Int)) = true := decide_eq_true (by omega)
      have hn := HN.out
      obtain ⟨ad, x, eA, ex, p0, p1, p2⟩ := at42n (Kd.C_below HC.out HB.out) k (by omega)
      subst eA
      have EX := Lib.hid ex
      clear hn ex
      have k0 : (0 : Int) ≤ (k : Int) := by omega
      have k1 : (k : Int) < (n : Int) := by omega
      have HBX := Aside0.mk (below_alloc HB.out (.cells #[.string x.f0, .bool x.f1, .bool x.f2] 42))
      by_cases hkt : t ≤ k
      · have d1 : decide ((t : Int) ≤ (k : Int)) = true := decide_eq_true (by omega)
        have d2 : decide (t ≤ k) = true := decide_eq_true hkt
        obtain ⟨f0, f1, f2⟩ := x
        go_wp2_with fail
        go_ret2
        have ht := HT.out
        rw [texts_len] at ht
        have hm := HM.out
        rw [match_short EX.out (by omega)] at hm
        exact ⟨_, by rw [← hm]; rfl, HBX.out⟩
      · have d1 : decide ((t : Int) ≤ (k : Int)) = false := decide_eq_false (by omega)
        have d2 : decide (t ≤ k) = false := decide_eq_false hkt
        obtain ⟨ae, b, eB, eb, q0⟩ := atStr (Kd.C_below HD.out HB.out) rfl k (by rw [← HT.out]; omega)
        subst eB
        have HBM := Lib.hid (match_step EX.out eb)
        have HBZ := HSZ.out b (List.mem_of_getElem? eb)
        clear eb
        have k2 : (k : Int) < (t : Int) := by omega
        have q1 : (wo.alloc (.cells #[.string x.f0, .bool x.f1, .bool x.f2] 42)).cell? (ae.add k) = some (.string b) := pw_cell_below (below_alloc (Below.refl _ _) _) q0
        have HRX := Aside0.mk (Kd.R_alloc HR.out (.cells #[.string x.f0, .bool x.f1, .bool x.f2] 42))
        have HXX := Aside0.mk (blk_alloc HX.out (.cells #[.string x.f0, .bool x.f1, .bool x.f2] 42))
        have HDX := Aside0.mk (Kd.C_below HD.out HBX.out)
        obtain ⟨f0, f1, f2⟩ := x
        cases f2 with
        | true =>
          have hmm := HM.out
          rw [HBM.out, if_pos rfl] at hmm
          have HMM := Lib.hid hmm
          clear hmm
          obtain ⟨B', t', gcut, ht', hC'⟩ := cut_texts (w := wo.alloc (.cells #[.string f0, .bool f1, .bool true] 42)) (n := t) (k := k) HT.out hcb (by omega) (by rw [HT.out]; exact HDX.out)
          have HT' := Lib.hid ht'; have HC' := Lib.hid hC'
          have htl : t' ≤ 100 := by rw [ht', List.length_drop, ← HT.out]; omega
          clear ht' hC'
          go_wp2_with fail
          go_loopw [9, 32] (fun v9 v32 wr => ∃ (r : ByteArray) (j : Nat), v9 = .string r ∧ v32 = .int .i64 j ∧ Aside0 (j ≤ t') ∧ Aside0 (r.size ≤ 101 * j) ∧ wr = wo.alloc (.cells #[.string f0, .bool f1, .bool true] 42)) (fun _ v _ => t' - (intOf v).toNat)
          case atStart => exact ⟨⟨#[]⟩, 0, rfl, rfl, ⟨Nat.zero_le _⟩, ⟨by show (0 : Nat) ≤ 101 * 0; omega⟩, rfl⟩
          case round =>
            obtain ⟨r, j, rfl, rfl, HJ, HRZ, rfl⟩ := hrel
            by_cases hjt : j < t'
            · have e0 : decide ((j : Int) < (t' : Int)) = true := decide_eq_true (by omega)
              obtain ⟨af, y, eC, ey, r0⟩ := atStr HC'.out HT'.out j hjt
              subst eC
              have hyz := HSZ.out y (List.mem_of_mem_drop (List.mem_of_getElem? ey))
              clear ey
              have j0 : (0 : Int) ≤ (j : Int) := by omega
              have j1 : (j : Int) < (t' : Int) := by omega
              have hrz := HRZ.out
              have z47 : (⟨#[47]⟩ : ByteArray).size = 1 := rfl
              obtain ⟨r1, g1, _, z1⟩ := cat r ⟨#[47]⟩ (by omega)
              obtain ⟨r2, g3, _, z2⟩ := cat r y (by omega)
              obtain ⟨r3, g4, _, z3⟩ := cat r1 y (by omega)
              by_cases hj0 : 0 < j
              · have e1 : decide ((0 : Int) < (j : Int)) = true := decide_eq_true (by omega)
                have e2 : decide (0 < j) = true := decide_eq_true hj0
                by_cases hy : y.data.toList = [47]
                · have n0 := isSlash_yes hy
                  clear hy
                  go_wp2_with fail
                  refine ⟨⟨r2, j + 1, rfl, by go_num, ⟨by omega⟩, ⟨by omega⟩, (by first | rfl | trivial)⟩, ?_⟩
                  simp [intOf]; omega
                · have n0 := isSlash_no hy
                  clear hy
                  go_wp2_with fail
                  refine ⟨⟨r3, j + 1, rfl, by go_num, ⟨by omega⟩, ⟨by omega⟩, (by first | rfl | trivial)⟩, ?_⟩
                  simp [intOf]; omega
              · have e1 : decide ((0 : Int) < (j : Int)) = false := decide_eq_false (by omega)
                have e2 : decide (0 < j) = false := decide_eq_false hj0
                by_cases hy : y.data.toList = [47]
                · have n0 := isSlash_yes hy
                  clear hy
                  go_wp2_with fail
                  refine ⟨⟨r, j + 1, rfl, by go_num, ⟨by omega⟩, ⟨by omega⟩, (by first | rfl | trivial)⟩, ?_⟩
                  simp [intOf]; omega
                · have n0 := isSlash_no hy
                  clear hy
                  go_wp2_with fail
                  refine ⟨⟨r2, j + 1, rfl, by go_num, ⟨by omega⟩, ⟨by omega⟩, (by first | rfl | trivial)⟩, ?_⟩
                  simp [intOf]; omega
            · have e0 : decide ((j : Int) < (t' : Int)) = false := decide_eq_false (by omega)
              by_cases he : f0.data.toList = []
              · obtain ⟨n0, n1, _⟩ := isEmpty_yes he
                go_wp2_with fail
                go_ret2
                exact ⟨_, by rw [← HMM.out]; rfl, HBX.out⟩
              · obtain ⟨n0, n1⟩ := isEmpty_no he
                go_wp2_with ((with_reducible refine gate_builtin (b := .append) (xs := #[.tmp 58, .tmp 60]) rfl ?_); at_builtin; refine Kd.R_append Kd.string (w0 := w) w.heap.size rfl (.tmp 58) (.tmp 60) 43 9 (.string ⟨#[]⟩) 16 rfl Tryd.underlying43 info9 rfl (by decide) (by omega) v xs r [.string r] (fun _ => True) (fun _ => False) rfl (by first | (go_simp; done) | (go_simp; rfl)) ?aP (fun _ hk => hk.elim) ?aF ?aO ?aB ?aS ?aL ?_; (case aP => exact rfl); (case aF => exact (fun _ _ => trivial)); (case aO => exact HRX.out); (case aB => exact HBX.out); (case aS => exact (below_size HBX.out)); (case aL => have := HXS.out; omega); intro v2 w2 ho hb2 hg2 hat2; have HO2 := Aside0.mk ho; have HB2 := Aside0.mk hb2; clear ho hb2 hg2 hat2)
                go_ret2
                exact ⟨_, by rw [← HMM.out]; rfl, HB2.out⟩
        | false =>
          cases f1 with
          | true =>
            by_cases hb : b.data.toList = [47]
            · have n0 := isSlash_yes hb
              have HBB := Lib.hid hb
              clear hb
              have hmm := HM.out
              rw [HBM.out, if_neg (by simp), if_pos rfl, if_pos HBB.out] at hmm
              have HMM := Lib.hid hmm
              clear hmm
              go_wp2_with fail
              go_ret2
              exact ⟨_, by rw [← HMM.out]; rfl, HBX.out⟩
            · have n0 := isSlash_no hb
              have HBB := Lib.hid hb
              clear hb
              have hmm := HM.out
              rw [HBM.out, if_neg (by simp), if_pos rfl, if_neg HBB.out] at hmm
              have HMM := Lib.hid hmm
              clear hmm
              go_wp2_with ((with_reducible refine gate_builtin (b := .append) (xs := #[.tmp 76, .tmp 81]) rfl ?_); at_builtin; refine Kd.R_append Kd.string (w0 := w) w.heap.size rfl (.tmp 76) (.tmp 81) 43 9 (.string ⟨#[]⟩) 16 rfl Tryd.underlying43 info9 rfl (by decide) (by omega) v xs b [.string b] (fun _ => True) (fun _ => False) rfl (by first | (go_simp; done) | (go_simp; rfl)) ?aP (fun _ hk => hk.elim) ?aF ?aO ?aB ?aS ?aL ?_; (case aP => exact rfl); (case aF => exact (fun _ _ => trivial)); (case aO => exact HRX.out); (case aB => exact HBX.out); (case aS => exact (below_size HBX.out)); (case aL => have := HXS.out; omega); intro v2 w2 ho hb2 hg2 hat2; have HO2 := Aside0.mk ho; have HB2 := Aside0.mk hb2; have HX2 := Aside0.mk (blk_grown HXX.out hg2 (Kd.R_ne HRX.out HXX.out (by decide))); clear ho hb2 hg2 hat2)
              refine ⟨⟨v2, k + 1, xs ++ [b], rfl, by go_num, ⟨by omega⟩, ⟨by omega⟩, ⟨by have := HXS.out; simp; omega⟩, ⟨?_⟩, HO2, HX2, HB2⟩, ?_⟩
              · exact HMM.out
              · simp [intOf]; omega
          | false =>
            by_cases hb : f0.data.toList = b.data.toList
            · have n0 : (f0.toList == b.toList) = true := by rw [Lib.toList_data, Lib.toList_data]; exact beq_iff_eq.2 hb
              have HBB := Lib.hid hb
              clear hb
              go_wp2_with fail
              go_quiet (fail)
              go_wp2_with fail
              refine ⟨⟨v, k + 1, xs, rfl, by go_num, ⟨by omega⟩, ⟨by omega⟩, ⟨by have := HXS.out; omega⟩, ⟨?_⟩, ⟨Kd.R_drewN HRX.out nq⟩, ⟨HXX.out⟩, ⟨pw_below_drewN HBX.out nq⟩⟩, ?_⟩
              · have hm := HM.out
                rw [HBM.out, if_neg (by simp), if_neg (by simp), if_pos HBB.out] at hm
                exact hm
              · simp [intOf]; omega
            · have n0 : (f0.toList == b.toList) = false := by rw [Lib.toList_data, Lib.toList_data]; exact beq_eq_false_iff_ne.2 hb
              have HBB := Lib.hid hb
              clear hb
              go_wp2_with fail
              go_quiet (fail)
              go_wp2_with fail
              go_ret2
              have hm := HM.out
              rw [HBM.out, if_neg (by simp), if_neg (by simp), if_neg HBB.out] at hm
              exact ⟨_, by rw [← hm]; rfl, pw_below_drewN HBX.out nq⟩
    · have d0 : decide ((k : Int) < (n : Int)) = false := decide_eq_false (by omega)
      have hk : k = n := by have := HK.out; omega
      have x0 := (blk_cell HX.out 2).trans rfl
      go_wp2_with fail
      go_quiet (fail)
      go_wp2_with fail
      go_ret2
      have hm := HM.out
      have ht := HT.out
      have hn := HN.out
      rw [texts_len] at ht
      rw [List.drop_eq_nil_of_le (show l.length ≤ k by omega)] at hm
      refine ⟨v, ?_, pw_below_drewN HB.out nq⟩
      have e : ((t : Int) == (n : Int)) = matchB l its := by
        rw [← hm]
        have := HKT.out
        by_cases h : t = n
        · rw [List.drop_eq_nil_of_le (show its.length ≤ k by omega)]
          exact beq_iff_eq.2 (by omega)
        · have h2 : (its.drop k).length ≠ 0 := by rw [List.length_drop]; omega
          rw [beq_eq_false_iff_ne.2 (show (t : Int) ≠ (n : Int) by omega)]
          cases hd : its.drop k with
          | nil => rw [hd] at h2; exact absurd rfl h2
          | cons a s => rfl
      rw [← e]
      rfl
end Go.Proofs.YtmkbkpeccddejaaDoor
