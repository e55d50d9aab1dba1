/- Plain Lean: how a pattern is written, as bytes. -/
import Derived.Test.YtmkbkpeccddejaaDoorPFnDifferencex0
import Derived.Test.YtmkbkpeccddejaaDoorB0
import Derived.Lib.Strings
namespace Go.Proofs.YtmkbkpeccddejaaDoor
open Go.Lib PFnDifference

/-- How a piece is written. -/
def segL (x : S42) : List UInt8 :=
  if x.f2 then (if x.f0.data.toList = [] then [] else 123 :: (x.f0.data.toList ++ [46, 46, 46, 125]))
  else if x.f1 then 123 :: (x.f0.data.toList ++ [125])
  else if x.f0.data.toList = [47] then [123, 36, 125] else x.f0.data.toList
/-- How pieces are written. -/
def restL (l : List S42) : List UInt8 := tailB (l.map segL)
theorem restL_nil : restL [] = [] := rfl
theorem restL_cons (x : S42) (l : List S42) : restL (x :: l) = 47 :: (segL x ++ restL l) := by simp [restL, tailB_cons]
/-- How a pattern is written. -/
def writeL (m h : ByteArray) (l : List S42) : List UInt8 := (if m.data.toList = [] then h.data.toList else m.data.toList ++ 32 :: h.data.toList) ++ restL l
end Go.Proofs.YtmkbkpeccddejaaDoor
