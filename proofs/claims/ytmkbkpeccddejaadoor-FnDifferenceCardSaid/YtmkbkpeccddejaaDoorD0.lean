/- The words for a path that is written piece by piece, and the walks of the program's writeSegment and writeMatchingPath. -/
import Derived.Test.YtmkbkpeccddejaaDoorP0
import Derived.Deep.QuietTactic
import Derived.BigQuiet
namespace Go.Proofs.YtmkbkpeccddejaaDoor
open Go.RowKit PFnDifference Go.Proofs.YtmkbkpeccddejaaDoorW.PrintWords Go.Proofs.YtmkbkpeccddejaaDoorW.PrintLast Go.Proofs.YtmkbkpeccddejaaDoorW.PrintMore
set_option linter.unusedVariables false
set_option linter.unusedSimpArgs false

/-! ### the builder -/
def BB (B b : Nat) (l : List UInt8) (w : World) : Prop := Lib.IsBuilderF 57 5 B b (Lib.byteCells l) w
theorem BB.new (w : World) : BB w.heap.size w.heap.size [] (w.alloc (.cells #[.pointer none, .slice none 0 0] 57)) := Lib.IsBuilderF.of (Lib.fresh_isBuilder 57 5 w)
theorem BB.alloc {B b : Nat} {l : List UInt8} {w : World} (h : BB B b l w) (o : Obj) : BB B b l (w.alloc o) := h.elim (fun x => .inl (x.alloc o)) (fun x => .inr (x.alloc o))
theorem BB.drewN {B b : Nat} {l : List UInt8} {w : World} (h : BB B b l w) (n : Nat) : BB B b l (w.drewN n) := h
theorem BB.lt {B b : Nat} {l : List UInt8} {w : World} (h : BB B b l w) : b < w.heap.size := h.elim (fun x => x.lt) (fun x => x.lt)
theorem BB.base {B b : Nat} {l : List UInt8} {w : World} (h : BB B b l w) : B ≤ b := h.elim (fun x => x.1) (fun x => x.1)
theorem wbyte (B b : Nat) (l : List UInt8) (c : Nat) (hc : c < 256) (w : World) (h : BB B b l w) (hl : l.length ≤ 10000) (hB : B ≤ w.heap.size) :
    Calls Tryd.prog 26 #[.pointer (some ⟨b, 0, none⟩), .int .u8 c] w fun e w' => e = .returned .nilIface ∧ BB B b (l ++ [UInt8.ofNat c]) w' ∧ Below B w w' ∧ Lib.OthersKept 5 (some b) w w' := by
  refine (Tryd.Builder_WriteByte_k B b _ c w h (by rw [Lib.byteCells_length]; omega) hB).mono ?_
  rintro e w' ⟨he, h1, h2, h3⟩
  refine ⟨he, ?_, h2, h3⟩
  have e1 : Lib.byteCells l ++ [Value.int .u8 (c : Int)] = Lib.byteCells (l ++ [UInt8.ofNat c]) := by
    rw [Lib.byteCells_append]
    congr 1
    simp only [Lib.byteCells, List.map_cons, List.map_nil, UInt8.toNat_ofNat']
    rw [Nat.mod_eq_of_lt (by omega)]
  rw [e1] at h1
  exact .inr h1
theorem wstring (B b : Nat) (l : List UInt8) (s : ByteArray) (w : World) (h : BB B b l w) (hl : l.length ≤ 10000) (hs : s.size ≤ 10000) (hB : B ≤ w.heap.size) :
    Calls Tryd.prog 28 #[.pointer (some ⟨b, 0, none⟩), .string s] w fun e w' => e = .returned (.tuple #[.int .i64 s.size, .nilIface]) ∧ BB B b (l ++ s.data.toList) w' ∧ Below B w w' ∧ Lib.OthersKept 5 (some b) w w' := by
  refine (Tryd.Builder_WriteString_k B b _ s w h (by rw [Lib.byteCells_length]; omega) hB).mono ?_
  rintro e w' ⟨he, h1, h2, h3⟩
  refine ⟨he, ?_, h2, h3⟩
  rw [Lib.strCells_eq, ← Lib.byteCells_append] at h1
  exact .inr h1
theorem wtext (B b : Nat) (l : List UInt8) (w : World) (h : BB B b l w) (hB : B ≤ w.heap.size) :
    Calls Tryd.prog 27 #[.pointer (some ⟨b, 0, none⟩)] w fun e w' => e = .returned (.string ⟨l.toArray⟩) ∧ Below B w w' := by
  refine (Tryd.Builder_String_any_k B b l w h hB).mono ?_
  rintro e w' ⟨he, h1, h2, h3⟩
  exact ⟨he, h2⟩
/-- A block of another type stays. -/
theorem blk_others {w w' : World} {b g : Nat} {cs : Array Value} {t : TypeId} (h : w.heap[g]? = some (.cells cs t (0, 0))) (hk : Lib.OthersKept 5 (some b) w w') (hb : g ≠ b) (ht : t ≠ 5) : w'.heap[g]? = some (.cells cs t (0, 0)) :=
  hk g _ h (fun e => hb (Option.some.inj e)) (fun c fz e => ht (by injection e))

/-! ### what is written for a piece -/
def segW (x : S42) : List UInt8 := 47 :: (if x.f2 = false ∧ x.f0.data.toList ≠ [47] then x.f0.data.toList else [])
theorem segW_multi {x : S42} (h : x.f2 = true) : segW x = [47] := by unfold segW; rw [if_neg (by rw [h]; simp)]
theorem segW_stop {x : S42} (h : x.f0.data.toList = [47]) : segW x = [47] := by unfold segW; rw [if_neg (by rw [h]; simp)]
theorem segW_plain {x : S42} (h : x.f2 = false) (h1 : x.f0.data.toList ≠ [47]) : segW x = 47 :: x.f0.data.toList := by unfold segW; rw [if_pos ⟨h, h1⟩]

set_option maxHeartbeats 4000000 in
set_option maxRecDepth 100000 in
theorem wseg (B b : Nat) (l : List UInt8) (x : S42) (w : World) (h : BB B b l w) (hl : l.length ≤ 5000) (hx : x.f0.size ≤ 100) (hB : B ≤ w.heap.size) :
    Calls Tryd.prog 29 #[.pointer (some ⟨b, 0, none⟩), .agg #[.string x.f0, .bool x.f1, .bool x.f2]] w fun e w' => e = .returned (.tuple #[]) ∧ BB B b (l ++ segW x) w' ∧ Below B w w' ∧ Lib.OthersKept 5 (some b) w w' := by
  obtain ⟨f0, f1, f2⟩ := x
  have h0 := h.alloc (.cells #[.string f0, .bool f1, .bool f2] 62)
  have hlt := h.lt
  have hb0 : Below B w (w.alloc (.cells #[.string f0, .bool f1, .bool f2] 62)) := (Below.refl B w).alloc hB _
  have hk0 : Lib.OthersKept 5 (some b) w (w.alloc (.cells #[.string f0, .bool f1, .bool f2] 62)) := (Lib.OthersKept.refl 5 (some b) w).alloc _
  have hbl := blk_new w (.cells #[.string f0, .bool f1, .bool f2] 62)
  have H0 := Aside0.mk h0; have HB0 := Aside0.mk hb0; have HK0 := Aside0.mk hk0; have HBL := Aside0.mk hbl
  clear h0 hb0 hk0 hbl
  go_enter Tryd.func29, Tryd.ntmps29
  go_wp2_with fail
  refine (wbyte B b l 47 (by decide) _ H0.out (by omega) (Nat.le_trans hB HB0.out.size)).mono ?_
  rintro e w1 ⟨rfl, h1, b1, k1⟩
  have hb := blk_others HBL.out k1 (by omega) (by decide)
  have c0 : w1.cell? ⟨w.heap.size, 0, none⟩ = some (.string f0) := (blk_cell hb 0).trans rfl
  have c1 : w1.cell? ⟨w.heap.size, 1, none⟩ = some (.bool f1) := (blk_cell hb 1).trans rfl
  have c2 : w1.cell? ⟨w.heap.size, 2, none⟩ = some (.bool f2) := (blk_cell hb 2).trans rfl
  have H1 := Aside0.mk h1; have B1 := Aside0.mk (HB0.out.trans b1); have K1 := Aside0.mk (HK0.out.trans k1)
  clear h1 b1 k1 hb
  cases f2 with
  | true =>
    go_wp2
    go_end0
    exact ⟨rfl, by rw [segW_multi rfl]; exact H1.out, B1.out, K1.out⟩
  | false =>
    by_cases hs : f0.data.toList = [47]
    · have n0 : (f0.toList == [47]) = true := by rw [Lib.toList_data, hs]; rfl
      go_wp2
      go_end0
      exact ⟨rfl, by rw [segW_stop hs]; exact H1.out, B1.out, K1.out⟩
    · have n0 : (f0.toList == [47]) = false := by rw [Lib.toList_data]; exact beq_eq_false_iff_ne.2 hs
      have HS := Lib.hid hs
      clear hs
      go_wp2_with fail
      refine (wstring B b (l ++ [UInt8.ofNat 47]) f0 _ H1.out (by simp; omega) (by omega) (Nat.le_trans hB B1.out.size)).mono ?_
      rintro e w2 ⟨rfl, h2, b2, k2⟩
      go_wp2
      go_end0
      exact ⟨rfl, by rw [segW_plain rfl HS.out]; simpa using h2, B1.out.trans b2, K1.out.trans k2⟩

/-- A piece of a row is read. -/
theorem at42n {w : World} {A : Option Addr} {l : List S42} (h : Kd.C k42 w A l.length l) (k : Nat) (hk : k < l.length) : ∃ (ad : Addr) (x : S42), A = some ad ∧ l[k]? = some x ∧ w.cell? (ad.add (k * 3)) = some (.string x.f0) ∧
    w.cell? ⟨(ad.add (k * 3)).block, (ad.add (k * 3)).off + 1, none⟩ = some (.bool x.f1) ∧ w.cell? ⟨(ad.add (k * 3)).block, (ad.add (k * 3)).off + 2, none⟩ = some (.bool x.f2) := by
  obtain ⟨ad, eA, c0, c1, c2⟩ := at_T42 h (k : Int) (by omega) (by omega)
  have er : rd_T42 l (k : Int) = l[k] := by unfold rd_T42; simp [List.getD, hk]
  rw [er, Int.toNat_natCast] at c0 c1 c2
  exact ⟨ad, l[k], eA, List.getElem?_eq_getElem hk, c0, c1, c2⟩
def segWs (l : List S42) : List UInt8 := l.flatMap segW
theorem segW_len (x : S42) (h : x.f0.size ≤ 16) : (segW x).length ≤ 17 := by
  unfold segW
  rw [List.length_cons]
  split
  · rw [← Lib.size_eq]; omega
  · simp
theorem segWs_len : ∀ (l : List S42), (∀ x ∈ l, x.f0.size ≤ 16) → (segWs l).length ≤ 17 * l.length
  | [], _ => by simp [segWs]
  | x :: l, h => by
    have h1 := segW_len x (h x (by simp))
    have h2 := segWs_len l (fun y hy => h y (by simp [hy]))
    unfold segWs at *
    rw [List.flatMap_cons, List.length_append, List.length_cons]
    omega
theorem segWs_take (l : List S42) (k : Nat) (h : k < l.length) : segWs (l.take (k + 1)) = segWs (l.take k) ++ segW l[k] := by
  rw [List.take_succ_eq_append_getElem h]
  unfold segWs
  rw [List.flatMap_append]
  simp
set_option maxHeartbeats 4000000 in
set_option maxRecDepth 100000 in
theorem wmatching (B b : Nat) (t : List UInt8) (A : Option Addr) (c : Nat) (l : List S42) (w : World) (h : BB B b t w) (ht : t.length ≤ 1000) (hl : l.length ≤ 6) (hc : l.length ≤ c) (h16 : ∀ x ∈ l, x.f0.size ≤ 16) (hB : B ≤ w.heap.size)
    (hC : ∀ W, Below B w W → Kd.C k42 W A l.length l) :
    Calls Tryd.prog 30 #[.pointer (some ⟨b, 0, none⟩), .slice A l.length c] w fun e w' => e = .returned (.tuple #[]) ∧ BB B b (t ++ segWs l) w' ∧ Below B w w' := by
  have H := Aside0.mk h; have HC := Lib.hid hC; have H16 := Lib.hid h16
  clear h hC h16
  go_enter Tryd.func30, Tryd.ntmps30
  go_wp2
  go_loopw [8] (fun v wr => ∃ k : Nat, v = .int .i64 k ∧ Aside0 (k ≤ l.length) ∧ Aside0 (BB B b (t ++ segWs (l.take k)) wr) ∧ Aside0 (Below B w wr)) (fun v _ => l.length - (intOf v).toNat)
  case atStart => exact ⟨0, rfl, ⟨Nat.zero_le _⟩, ⟨by simpa [segWs] using H.out⟩, ⟨Below.refl _ _⟩⟩
  case round =>
    obtain ⟨k, rfl, HK, HBB, HBW⟩ := hrel
    by_cases hkl : k < l.length
    · have d0 : decide ((k : Int) < (l.length : Int)) = true := decide_eq_true (by omega)
      obtain ⟨ad, x, eA, ex, c0, c1, c2⟩ := at42n (HC.out _ HBW.out) k hkl
      have hx16 := H16.out x (List.mem_of_getElem? ex)
      have hs : segWs (l.take (k + 1)) = segWs (l.take k) ++ segW x := by
        rw [segWs_take l k hkl]
        rw [List.getElem?_eq_getElem hkl] at ex
        rw [Option.some.inj ex]
      have hlen := segWs_len (l.take k) (fun y hy => H16.out y (List.mem_of_mem_take hy))
      have hlk : (l.take k).length ≤ l.length := by rw [List.length_take]; omega
      have HS := Lib.hid hs; have HL := Lib.hid hlen; have HLK := Lib.hid hlk
      clear hs ex hlen hlk
      subst eA
      have k0 : (0 : Int) ≤ (k : Int) := by omega
      have k1 : (k : Int) < (l.length : Int) := by omega
      go_wp2_with fail
      refine (wseg B b _ x _ (HBB.out.alloc _) (by rw [List.length_append]; have := HL.out; have := HLK.out; omega) (by omega) (Nat.le_trans hB (HBW.out.alloc (Nat.le_trans hB HBW.out.size) _).size)).mono ?_
      rintro e w2 ⟨rfl, h2, b2, k2⟩
      have H2 := Aside0.mk h2
      have B2 := Aside0.mk ((HBW.out.alloc (Nat.le_trans hB HBW.out.size) _).trans b2)
      clear h2 b2 k2
      go_wp2_with fail
      go_roundw
      case rel => exact ⟨k + 1, by go_num, ⟨by omega⟩, ⟨by rw [HS.out, ← List.append_assoc]; exact H2.out⟩, B2⟩
      case measure => simp [intOf]; omega
    · have d0 : decide ((k : Int) < (l.length : Int)) = false := decide_eq_false (by omega)
      have hk : k = l.length := by have := HK.out; omega
      go_wp2
      go_end0
      have hb := HBB.out
      rw [List.take_of_length_le (by omega)] at hb
      exact ⟨rfl, hb, HBW.out⟩
end Go.Proofs.YtmkbkpeccddejaaDoor
