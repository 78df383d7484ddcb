/-
  Strings in a walk are spelled as lists of bytes.
-/
import Derived.Test.YtpjehmblndjknaaDoorBase
import Derived.Lib.Strings
namespace Go.Proofs.YtpjehmblndjknaaDoor
open Go.RowKit

theorem toL (s : ByteArray) : s.toList = s.data.toList := Lib.toList_data s

attribute [go_sem] bs_size bs_append bs_extract
@[go_sem] theorem bs_toL (l : List UInt8) : (bs l).toList = l := by rw [toL]; rfl
@[go_sem] theorem mk_toL (a : Array UInt8) : (ByteArray.mk a).toList = a.toList := by rw [toL]
@[go_sem] theorem bs_append_mk (l : List UInt8) (a : Array UInt8) : bs l ++ ByteArray.mk a = bs (l ++ a.toList) := by
  rw [← bs_append]; rfl
@[go_sem] theorem mk_append_bs (l : List UInt8) (a : Array UInt8) : ByteArray.mk a ++ bs l = bs (a.toList ++ l) := by
  rw [← bs_append]; rfl
@[go_sem] theorem bs_get (l : List UInt8) (k : Nat) (h : k < (bs l).size) : (bs l)[k]'h = l[k]'(by rw [← bs_size]; exact h) := rfl
end Go.Proofs.YtpjehmblndjknaaDoor
