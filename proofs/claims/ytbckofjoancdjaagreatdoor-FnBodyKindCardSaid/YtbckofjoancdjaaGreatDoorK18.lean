/- Package spec: asciiOnly, in. Plain facts for contentFits at the signed kinds. -/
import Derived.Test.YtbckofjoancdjaaGreatDoorK15
import Derived.IntWalk
import Derived.Lib.EndianBits
namespace Go.Proofs.YtbckofjoancdjaaGreatDoor
open Go Go.RowKit Go.Lib
theorem mem_bytes {s : ByteArray} {b : UInt8} (h : b ∈ bytesOf s) : ∃ (j : Nat) (hj : j < s.size), s[j] = b := by
  obtain ⟨j, hj⟩ := List.mem_iff_getElem?.1 h
  have hl : j < s.size := by have := (List.getElem?_eq_some_iff.1 hj).1; rwa [bytesOf_length] at this
  refine ⟨j, hl, ?_⟩
  have := (List.getElem?_eq_some_iff.1 hj).2
  exact this
end Go.Proofs.YtbckofjoancdjaaGreatDoor
namespace Go.Proofs.YtbckofjoancdjaaGreatDoor
open Go Go.RowKit
theorem i64_of (x : Int) (h : 0 ≤ x ∧ x ≤ 18446744073709551615) : IntKind.i64.wrap x = if x < 9223372036854775808 then x else x - 18446744073709551616 := by
  by_cases hx : x < 9223372036854775808
  · rw [if_pos hx]; exact IntWalk.i64_in x ⟨by omega, by omega⟩
  · rw [if_neg hx]
    simp [IntKind.wrap, IntKind.bits, IntKind.signed]
    omega
theorem sgn_6 (n : Int) (hn : 0 ≤ n ∧ n ≤ 18446744073709551615) : IntKind.u64.wrap (IntKind.i64.wrap (IntKind.u64.wrap (n * 72057594037927936)) / 72057594037927936) = n ↔ (n < 128 ∨ 18446744073709551488 ≤ n) := by
  rw [IntKind.wrap_u64 (n * 72057594037927936), i64_of _ (by omega), IntKind.wrap_u64]
  split <;> omega
theorem sgn_7 (n : Int) (hn : 0 ≤ n ∧ n ≤ 18446744073709551615) : IntKind.u64.wrap (IntKind.i64.wrap (IntKind.u64.wrap (n * 281474976710656)) / 281474976710656) = n ↔ (n < 32768 ∨ 18446744073709518848 ≤ n) := by
  rw [IntKind.wrap_u64 (n * 281474976710656), i64_of _ (by omega), IntKind.wrap_u64]
  split <;> omega
theorem sgn_8 (n : Int) (hn : 0 ≤ n ∧ n ≤ 18446744073709551615) : IntKind.u64.wrap (IntKind.i64.wrap (IntKind.u64.wrap (n * 4294967296)) / 4294967296) = n ↔ (n < 2147483648 ∨ 18446744071562067968 ≤ n) := by
  rw [IntKind.wrap_u64 (n * 4294967296), i64_of _ (by omega), IntKind.wrap_u64]
  split <;> omega
end Go.Proofs.YtbckofjoancdjaaGreatDoor
