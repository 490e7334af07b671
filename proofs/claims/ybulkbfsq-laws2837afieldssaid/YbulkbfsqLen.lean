/-
  math/bits.Len64, Len (46, 40).
-/
import Derived.Test.YbulkbfsqMem
import Derived.Lib.Strings
import Derived.Lib.Slices
import Derived.Lib.Small
import Derived.Lib.Walk
import Derived.Lib.BitFns
namespace Go.Proofs.Ybulkbfsq
open Go.ChangeShapes Go.WideShapes Go.ChangeAt Go.RowKit

theorem len8_bd (b : Int) (h0 : 0 ≤ b) (h1 : b ≤ 255) : 0 ≤ Lib.len8 b ∧ Lib.len8 b ≤ 8 := by
  rw [Lib.len8_of b h0 h1]
  have := Lib.bitLen_le8' b h0 h1
  omega

set_option maxHeartbeats 4000000 in
set_option maxRecDepth 100000 in
theorem len64_at (x : Int) (w : World) (h0 : 0 ≤ x) (h1 : x ≤ 18446744073709551615) :
    Calls Yba.prog 46 #[.int .u64 x] w fun e w' => e = .returned (.int .i64 (Lib.bitLen x.toNat)) ∧ w' = w := by
  by_cases a : 4294967296 ≤ x
  · by_cases b : 65536 ≤ x / 4294967296
    · by_cases c : 256 ≤ x / 4294967296 / 65536
      · have b0 : 0 ≤ x / 4294967296 / 65536 / 256 := by omega
        have b1 : x / 4294967296 / 65536 / 256 ≤ 255 := by omega
        have bl := len8_bd (x / 4294967296 / 65536 / 256) b0 b1
        have Hv : Hid (56 + Lib.len8 (x / 4294967296 / 65536 / 256) = (Lib.bitLen x.toNat : Int)) := by
          rw [Hid, Lib.len8_of (x / 4294967296 / 65536 / 256) b0 b1]
          have e : (x / 4294967296 / 65536 / 256).toNat = x.toNat / 72057594037927936 := by omega
          have s := Lib.bitLen_shift56 x.toNat (by omega) (by omega)
          rw [e]
          omega
        go_enter Yba.func46, Yba.ntmps46
        go_wp2
        go_ret
        exact ⟨congrArg Ending.returned (congrArg (Value.int IntKind.i64) Hv.out), rfl⟩
      · have b0 : 0 ≤ x / 4294967296 / 65536 := by omega
        have b1 : x / 4294967296 / 65536 ≤ 255 := by omega
        have bl := len8_bd (x / 4294967296 / 65536) b0 b1
        have Hv : Hid (48 + Lib.len8 (x / 4294967296 / 65536) = (Lib.bitLen x.toNat : Int)) := by
          rw [Hid, Lib.len8_of (x / 4294967296 / 65536) b0 b1]
          have e : (x / 4294967296 / 65536).toNat = x.toNat / 281474976710656 := by omega
          have s := Lib.bitLen_shift48 x.toNat (by omega) (by omega)
          rw [e]
          omega
        go_enter Yba.func46, Yba.ntmps46
        go_wp2
        go_ret
        exact ⟨congrArg Ending.returned (congrArg (Value.int IntKind.i64) Hv.out), rfl⟩
    · by_cases c : 256 ≤ x / 4294967296
      · have b0 : 0 ≤ x / 4294967296 / 256 := by omega
        have b1 : x / 4294967296 / 256 ≤ 255 := by omega
        have bl := len8_bd (x / 4294967296 / 256) b0 b1
        have Hv : Hid (40 + Lib.len8 (x / 4294967296 / 256) = (Lib.bitLen x.toNat : Int)) := by
          rw [Hid, Lib.len8_of (x / 4294967296 / 256) b0 b1]
          have e : (x / 4294967296 / 256).toNat = x.toNat / 1099511627776 := by omega
          have s := Lib.bitLen_shift40 x.toNat (by omega) (by omega)
          rw [e]
          omega
        go_enter Yba.func46, Yba.ntmps46
        go_wp2
        go_ret
        exact ⟨congrArg Ending.returned (congrArg (Value.int IntKind.i64) Hv.out), rfl⟩
      · have b0 : 0 ≤ x / 4294967296 := by omega
        have b1 : x / 4294967296 ≤ 255 := by omega
        have bl := len8_bd (x / 4294967296) b0 b1
        have Hv : Hid (32 + Lib.len8 (x / 4294967296) = (Lib.bitLen x.toNat : Int)) := by
          rw [Hid, Lib.len8_of (x / 4294967296) b0 b1]
          have e : (x / 4294967296).toNat = x.toNat / 4294967296 := by omega
          have s := Lib.bitLen_shift32 x.toNat (by omega) (by omega)
          rw [e]
          omega
        go_enter Yba.func46, Yba.ntmps46
        go_wp2
        go_ret
        exact ⟨congrArg Ending.returned (congrArg (Value.int IntKind.i64) Hv.out), rfl⟩
  · by_cases b : 65536 ≤ x
    · by_cases c : 256 ≤ x / 65536
      · have b0 : 0 ≤ x / 65536 / 256 := by omega
        have b1 : x / 65536 / 256 ≤ 255 := by omega
        have bl := len8_bd (x / 65536 / 256) b0 b1
        have Hv : Hid (24 + Lib.len8 (x / 65536 / 256) = (Lib.bitLen x.toNat : Int)) := by
          rw [Hid, Lib.len8_of (x / 65536 / 256) b0 b1]
          have e : (x / 65536 / 256).toNat = x.toNat / 16777216 := by omega
          have s := Lib.bitLen_shift24 x.toNat (by omega) (by omega)
          rw [e]
          omega
        go_enter Yba.func46, Yba.ntmps46
        go_wp2
        go_ret
        exact ⟨congrArg Ending.returned (congrArg (Value.int IntKind.i64) Hv.out), rfl⟩
      · have b0 : 0 ≤ x / 65536 := by omega
        have b1 : x / 65536 ≤ 255 := by omega
        have bl := len8_bd (x / 65536) b0 b1
        have Hv : Hid (16 + Lib.len8 (x / 65536) = (Lib.bitLen x.toNat : Int)) := by
          rw [Hid, Lib.len8_of (x / 65536) b0 b1]
          have e : (x / 65536).toNat = x.toNat / 65536 := by omega
          have s := Lib.bitLen_shift16 x.toNat (by omega) (by omega)
          rw [e]
          omega
        go_enter Yba.func46, Yba.ntmps46
        go_wp2
        go_ret
        exact ⟨congrArg Ending.returned (congrArg (Value.int IntKind.i64) Hv.out), rfl⟩
    · by_cases c : 256 ≤ x
      · have b0 : 0 ≤ x / 256 := by omega
        have b1 : x / 256 ≤ 255 := by omega
        have bl := len8_bd (x / 256) b0 b1
        have Hv : Hid (8 + Lib.len8 (x / 256) = (Lib.bitLen x.toNat : Int)) := by
          rw [Hid, Lib.len8_of (x / 256) b0 b1]
          have e : (x / 256).toNat = x.toNat / 256 := by omega
          have s := Lib.bitLen_shift8 x.toNat (by omega) (by omega)
          rw [e]
          omega
        go_enter Yba.func46, Yba.ntmps46
        go_wp2
        go_ret
        exact ⟨congrArg Ending.returned (congrArg (Value.int IntKind.i64) Hv.out), rfl⟩
      · have b0 : 0 ≤ x := by omega
        have b1 : x ≤ 255 := by omega
        have bl := len8_bd (x) b0 b1
        have Hv : Hid (Lib.len8 (x) = (Lib.bitLen x.toNat : Int)) := by
          rw [Hid, Lib.len8_of (x) b0 b1]
        go_enter Yba.func46, Yba.ntmps46
        go_wp2
        go_ret
        exact ⟨congrArg Ending.returned (congrArg (Value.int IntKind.i64) Hv.out), rfl⟩

set_option maxHeartbeats 400000 in
theorem len_at (x : Int) (w : World) (h0 : 0 ≤ x) (h1 : x ≤ 18446744073709551615) :
    Calls Yba.prog 40 #[.int .u64 x] w fun e w' => e = .returned (.int .i64 (Lib.bitLen x.toNat)) ∧ w' = w := by
  go_enter Yba.func40, Yba.ntmps40
  go_wp2_with fail
  refine (len64_at x w h0 h1).mono ?_
  rintro e w' ⟨rfl, h⟩
  subst w'
  go_wp2
  go_ret
  exact ⟨rfl, rfl⟩

end Go.Proofs.Ybulkbfsq
