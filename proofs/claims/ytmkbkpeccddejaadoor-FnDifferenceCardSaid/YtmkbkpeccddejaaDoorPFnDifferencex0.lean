-- PRINTED BY print.sh 35421559b90ae4d0a3588c463048766b98c2df88dd9212a6774a882060cdf62d: not written by this session
import Derived.Test.YtmkbkpeccddejaaDoorProg
import Derived.Below
import Derived.Deep.Draws
import Derived.Deep.AppendLies
import Derived.Maps.AppendAt
import Derived.OwnWalk
import Derived.Laws.BytesArg
import Derived.Laws.MakeOwn
import Derived.Laws.OwnMore
import Derived.Deep.OwnRows
import Derived.Tactics
import Derived.Lib.ConvBytes
import Derived.Laws.Slices
import Derived.WalkKit
import Derived.KernelRfl
import Derived.RowKit3
import Derived.Deep.LoopGhost
import Derived.Deep.QuietTactic
import Derived.BigQuiet
import Derived.WideLaws
import Derived.Deep.DeepCutAuto
import Derived.Deep.CutBlock
import Derived.Deep.RegionHeld3
import Derived.Laws.Rows
import Derived.Lib.AppendStr
import Derived.ArgAppend
import Derived.Laws.IdiomCopy
import Derived.OrdersHeld
import Derived.Laws.BitsLemmas
import Derived.RowKit
import Derived.Test.YtmkbkpeccddejaaDoorWWords
import Derived.Test.YtmkbkpeccddejaaDoorWLast
import Derived.Test.YtmkbkpeccddejaaDoorWTab
import Derived.Test.YtmkbkpeccddejaaDoorWFour
import Derived.Test.YtmkbkpeccddejaaDoorWQPut
import Derived.Test.YtmkbkpeccddejaaDoorWApart
import Derived.Test.YtmkbkpeccddejaaDoorWArr
import Derived.Test.YtmkbkpeccddejaaDoorWZeros
import Derived.Test.YtmkbkpeccddejaaDoorWFoot
import Derived.Test.YtmkbkpeccddejaaDoorWKept
import Derived.Test.YtmkbkpeccddejaaDoorWShare
import Derived.Test.YtmkbkpeccddejaaDoorWN
import Derived.Test.YtmkbkpeccddejaaDoorWFootNe
import Derived.Test.YtmkbkpeccddejaaDoorWAt
import Derived.Test.YtmkbkpeccddejaaDoorWEqStruct
import Derived.Test.YtmkbkpeccddejaaDoorWRepsOne
import Derived.Test.YtmkbkpeccddejaaDoorWInv
import Derived.Test.YtmkbkpeccddejaaDoorWInvWords
import Derived.Test.YtmkbkpeccddejaaDoorWGuard
import Derived.Test.YtmkbkpeccddejaaDoorWNEv
import Derived.Test.YtmkbkpeccddejaaDoorWMore
namespace Go.Proofs.YtmkbkpeccddejaaDoor.PFnDifference
open Go.RowKit Go.Proofs.YtmkbkpeccddejaaDoorW.PrintWords Go.Proofs.YtmkbkpeccddejaaDoorW.PrintLast Go.Proofs.YtmkbkpeccddejaaDoorW.PrintMore
attribute [local go_sem] max2_int min2_int max_two min_two max_three min_three max_four min_four   -- for this text's walks alone
set_option linter.unusedVariables false
set_option linter.unusedSimpArgs false



def errW : Option Int → Value
  | none => .nilIface
  | some c => .iface 0 (.int .i64 c)
theorem errW_none : errW none = .nilIface := rfl
theorem errW_some (c : Int) : errW (some c) = .iface 0 (.int .i64 c) := rfl

theorem info9 : (Tryd.prog.info? 9).map (fun i => (i.zero, i.size, i.bytes)) = some (some (.string ⟨#[]⟩), 1, 16) := by kernel_rfl
theorem info42 : (Tryd.prog.info? 42).map (fun i => (i.zero, i.size, i.bytes)) = some (some (.agg #[(.string ⟨#[]⟩), (.bool false), (.bool false)]), 3, 24) := by kernel_rfl
-- the values' own types
/-! #### struct type 47 -/
structure S47 where
  f0 : ByteArray
  f1 : Bool
  f2 : Bool
def z47 : S47 := ⟨(⟨#[]⟩ : ByteArray), false, false⟩
def k47 : Kd S47 := Kd.iso (Kd.pair Kd.string (Kd.pair Kd.bool Kd.bool)) (fun x : S47 => (x.f0, x.f1, x.f2))
theorem k47_open {w : World} {x : S47} {cs : List Value} (h : k47.K w x cs) : cs = [.string x.f0, .bool x.f1, .bool x.f2] := by
  obtain ⟨_, _, rfl, rfl, ⟨_, _, rfl, rfl, rfl⟩⟩ := h
  exact rfl
theorem k47_openM {w : World} {base : Nat} {ok : Nat → Prop} {x : S47} {cs : List Value} (h : k47.M w base ok x cs) : cs = [.string x.f0, .bool x.f1, .bool x.f2] := by
  obtain ⟨_, _, rfl, rfl, ⟨_, _, rfl, rfl, rfl⟩⟩ := h
  exact rfl
theorem k47_mk (w : World) (x : S47)  : k47.K w x [.string x.f0, .bool x.f1, .bool x.f2] := ⟨[.string x.f0], [.bool x.f1, .bool x.f2], rfl, rfl, ⟨[.bool x.f1], [.bool x.f2], rfl, rfl, rfl⟩⟩
theorem k47_mkM (w : World) (base : Nat) (ok : Nat → Prop) (x : S47)  : k47.M w base ok x [.string x.f0, .bool x.f1, .bool x.f2] := ⟨[.string x.f0], [.bool x.f1, .bool x.f2], rfl, rfl, ⟨[.bool x.f1], [.bool x.f2], rfl, rfl, rfl⟩⟩
def rd_T47 (xs : List S47) (i : Int) : S47 := xs.getD i.toNat z47
theorem at_T47 {w : World} {A : Option Addr} {n : Nat} {xs : List S47} (h : Kd.C k47 w A n xs) (i : Int) (h0 : 0 ≤ i) (h1 : i < n) : ∃ ad , A = some ad ∧ w.cell? (ad.add (i.toNat * 3)) = some (.string (rd_T47 xs i).f0) ∧ w.cell? ⟨(ad.add (i.toNat * 3)).block, (ad.add (i.toNat * 3)).off + 1, none⟩ = some (.bool (rd_T47 xs i).f1) ∧ w.cell? ⟨(ad.add (i.toNat * 3)).block, (ad.add (i.toNat * 3)).off + 2, none⟩ = some (.bool (rd_T47 xs i).f2) := by
  obtain ⟨ad, c, e, _, hK, hc0⟩ := Kd.C_get h z47 i h0 h1
  have hc : ∀ j u, c[j]? = some u → w.cell? (ad.add (i.toNat * 3 + j)) = some u := hc0
  obtain rfl := k47_open hK
  exact ⟨ad, e, hc 0 _ rfl, by rw [← add_field _ _ 1 (by omega)]; exact hc 1 _ rfl, by rw [← add_field _ _ 2 (by omega)]; exact hc 2 _ rfl⟩

/-! #### struct type 42 -/
structure S42 where
  f0 : ByteArray
  f1 : Bool
  f2 : Bool
def z42 : S42 := ⟨(⟨#[]⟩ : ByteArray), false, false⟩
def k42 : Kd S42 := Kd.iso (Kd.pair Kd.string (Kd.pair Kd.bool Kd.bool)) (fun x : S42 => (x.f0, x.f1, x.f2))
theorem k42_open {w : World} {x : S42} {cs : List Value} (h : k42.K w x cs) : cs = [.string x.f0, .bool x.f1, .bool x.f2] := by
  obtain ⟨_, _, rfl, rfl, ⟨_, _, rfl, rfl, rfl⟩⟩ := h
  exact rfl
theorem k42_openM {w : World} {base : Nat} {ok : Nat → Prop} {x : S42} {cs : List Value} (h : k42.M w base ok x cs) : cs = [.string x.f0, .bool x.f1, .bool x.f2] := by
  obtain ⟨_, _, rfl, rfl, ⟨_, _, rfl, rfl, rfl⟩⟩ := h
  exact rfl
theorem k42_mk (w : World) (x : S42)  : k42.K w x [.string x.f0, .bool x.f1, .bool x.f2] := ⟨[.string x.f0], [.bool x.f1, .bool x.f2], rfl, rfl, ⟨[.bool x.f1], [.bool x.f2], rfl, rfl, rfl⟩⟩
theorem k42_mkM (w : World) (base : Nat) (ok : Nat → Prop) (x : S42)  : k42.M w base ok x [.string x.f0, .bool x.f1, .bool x.f2] := ⟨[.string x.f0], [.bool x.f1, .bool x.f2], rfl, rfl, ⟨[.bool x.f1], [.bool x.f2], rfl, rfl, rfl⟩⟩
def rd_T42 (xs : List S42) (i : Int) : S42 := xs.getD i.toNat z42
theorem at_T42 {w : World} {A : Option Addr} {n : Nat} {xs : List S42} (h : Kd.C k42 w A n xs) (i : Int) (h0 : 0 ≤ i) (h1 : i < n) : ∃ ad , A = some ad ∧ w.cell? (ad.add (i.toNat * 3)) = some (.string (rd_T42 xs i).f0) ∧ w.cell? ⟨(ad.add (i.toNat * 3)).block, (ad.add (i.toNat * 3)).off + 1, none⟩ = some (.bool (rd_T42 xs i).f1) ∧ w.cell? ⟨(ad.add (i.toNat * 3)).block, (ad.add (i.toNat * 3)).off + 2, none⟩ = some (.bool (rd_T42 xs i).f2) := by
  obtain ⟨ad, c, e, _, hK, hc0⟩ := Kd.C_get h z42 i h0 h1
  have hc : ∀ j u, c[j]? = some u → w.cell? (ad.add (i.toNat * 3 + j)) = some u := hc0
  obtain rfl := k42_open hK
  exact ⟨ad, e, hc 0 _ rfl, by rw [← add_field _ _ 1 (by omega)]; exact hc 1 _ rfl, by rw [← add_field _ _ 2 (by omega)]; exact hc 2 _ rfl⟩

/-! #### struct type 118 -/
structure S118 where
  f0 : Int
  f1 : Int
  f2 : Int
def z118 : S118 := ⟨(0 : Int), (0 : Int), (0 : Int)⟩
def k118 : Kd S118 := Kd.iso (Kd.pair (Kd.int .u16) (Kd.pair (Kd.int .u16) (Kd.int .u16))) (fun x : S118 => (x.f0, x.f1, x.f2))
theorem k118_open {w : World} {x : S118} {cs : List Value} (h : k118.K w x cs) : cs = [.int .u16 x.f0, .int .u16 x.f1, .int .u16 x.f2] := by
  obtain ⟨_, _, rfl, rfl, ⟨_, _, rfl, rfl, rfl⟩⟩ := h
  exact rfl
theorem k118_openM {w : World} {base : Nat} {ok : Nat → Prop} {x : S118} {cs : List Value} (h : k118.M w base ok x cs) : cs = [.int .u16 x.f0, .int .u16 x.f1, .int .u16 x.f2] := by
  obtain ⟨_, _, rfl, rfl, ⟨_, _, rfl, rfl, rfl⟩⟩ := h
  exact rfl
theorem k118_mk (w : World) (x : S118)  : k118.K w x [.int .u16 x.f0, .int .u16 x.f1, .int .u16 x.f2] := ⟨[.int .u16 x.f0], [.int .u16 x.f1, .int .u16 x.f2], rfl, rfl, ⟨[.int .u16 x.f1], [.int .u16 x.f2], rfl, rfl, rfl⟩⟩
theorem k118_mkM (w : World) (base : Nat) (ok : Nat → Prop) (x : S118)  : k118.M w base ok x [.int .u16 x.f0, .int .u16 x.f1, .int .u16 x.f2] := ⟨[.int .u16 x.f0], [.int .u16 x.f1, .int .u16 x.f2], rfl, rfl, ⟨[.int .u16 x.f1], [.int .u16 x.f2], rfl, rfl, rfl⟩⟩
def rd_T118 (xs : List S118) (i : Int) : S118 := xs.getD i.toNat z118
theorem at_T118 {w : World} {A : Option Addr} {n : Nat} {xs : List S118} (h : Kd.C k118 w A n xs) (i : Int) (h0 : 0 ≤ i) (h1 : i < n) : ∃ ad , A = some ad ∧ w.cell? (ad.add (i.toNat * 3)) = some (.int .u16 (rd_T118 xs i).f0) ∧ w.cell? ⟨(ad.add (i.toNat * 3)).block, (ad.add (i.toNat * 3)).off + 1, none⟩ = some (.int .u16 (rd_T118 xs i).f1) ∧ w.cell? ⟨(ad.add (i.toNat * 3)).block, (ad.add (i.toNat * 3)).off + 2, none⟩ = some (.int .u16 (rd_T118 xs i).f2) := by
  obtain ⟨ad, c, e, _, hK, hc0⟩ := Kd.C_get h z118 i h0 h1
  have hc : ∀ j u, c[j]? = some u → w.cell? (ad.add (i.toNat * 3 + j)) = some u := hc0
  obtain rfl := k118_open hK
  exact ⟨ad, e, hc 0 _ rfl, by rw [← add_field _ _ 1 (by omega)]; exact hc 1 _ rfl, by rw [← add_field _ _ 2 (by omega)]; exact hc 2 _ rfl⟩

/-! #### struct type 121 -/
structure S121 where
  f0 : Int
  f1 : Int
  f2 : Int
def z121 : S121 := ⟨(0 : Int), (0 : Int), (0 : Int)⟩
def k121 : Kd S121 := Kd.iso (Kd.pair (Kd.int .u32) (Kd.pair (Kd.int .u32) (Kd.int .u32))) (fun x : S121 => (x.f0, x.f1, x.f2))
theorem k121_open {w : World} {x : S121} {cs : List Value} (h : k121.K w x cs) : cs = [.int .u32 x.f0, .int .u32 x.f1, .int .u32 x.f2] := by
  obtain ⟨_, _, rfl, rfl, ⟨_, _, rfl, rfl, rfl⟩⟩ := h
  exact rfl
theorem k121_openM {w : World} {base : Nat} {ok : Nat → Prop} {x : S121} {cs : List Value} (h : k121.M w base ok x cs) : cs = [.int .u32 x.f0, .int .u32 x.f1, .int .u32 x.f2] := by
  obtain ⟨_, _, rfl, rfl, ⟨_, _, rfl, rfl, rfl⟩⟩ := h
  exact rfl
theorem k121_mk (w : World) (x : S121)  : k121.K w x [.int .u32 x.f0, .int .u32 x.f1, .int .u32 x.f2] := ⟨[.int .u32 x.f0], [.int .u32 x.f1, .int .u32 x.f2], rfl, rfl, ⟨[.int .u32 x.f1], [.int .u32 x.f2], rfl, rfl, rfl⟩⟩
theorem k121_mkM (w : World) (base : Nat) (ok : Nat → Prop) (x : S121)  : k121.M w base ok x [.int .u32 x.f0, .int .u32 x.f1, .int .u32 x.f2] := ⟨[.int .u32 x.f0], [.int .u32 x.f1, .int .u32 x.f2], rfl, rfl, ⟨[.int .u32 x.f1], [.int .u32 x.f2], rfl, rfl, rfl⟩⟩
def rd_T121 (xs : List S121) (i : Int) : S121 := xs.getD i.toNat z121
theorem at_T121 {w : World} {A : Option Addr} {n : Nat} {xs : List S121} (h : Kd.C k121 w A n xs) (i : Int) (h0 : 0 ≤ i) (h1 : i < n) : ∃ ad , A = some ad ∧ w.cell? (ad.add (i.toNat * 3)) = some (.int .u32 (rd_T121 xs i).f0) ∧ w.cell? ⟨(ad.add (i.toNat * 3)).block, (ad.add (i.toNat * 3)).off + 1, none⟩ = some (.int .u32 (rd_T121 xs i).f1) ∧ w.cell? ⟨(ad.add (i.toNat * 3)).block, (ad.add (i.toNat * 3)).off + 2, none⟩ = some (.int .u32 (rd_T121 xs i).f2) := by
  obtain ⟨ad, c, e, _, hK, hc0⟩ := Kd.C_get h z121 i h0 h1
  have hc : ∀ j u, c[j]? = some u → w.cell? (ad.add (i.toNat * 3 + j)) = some u := hc0
  obtain rfl := k121_open hK
  exact ⟨ad, e, hc 0 _ rfl, by rw [← add_field _ _ 1 (by omega)]; exact hc 1 _ rfl, by rw [← add_field _ _ 2 (by omega)]; exact hc 2 _ rfl⟩

end Go.Proofs.YtmkbkpeccddejaaDoor.PFnDifference
