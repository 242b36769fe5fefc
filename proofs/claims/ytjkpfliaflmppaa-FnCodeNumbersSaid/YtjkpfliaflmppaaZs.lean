/- Cells of fresh variables, by type. No condition. -/
import Derived.Test.YtjkpfliaflmppaaTb
import Derived.Test.YtjkpfliaflmppaaVm7
namespace Go.Proofs.Ytjkpfliaflmppaa.Pc
open Go Go.RowKit Go.Proofs.Ytjkpfliaflmppaa.Vm
theorem zero2 : zeroOf Try.prog 2 = some [.int .i64 0] := by kernel_rfl
theorem zero4 : zeroOf Try.prog 4 = some [.bool false] := by kernel_rfl
theorem zero22 : zeroOf Try.prog 22 = some [.slice none 0 0] := by kernel_rfl
theorem zero23 : zeroOf Try.prog 23 = some [.slice none 0 0] := by kernel_rfl
theorem zero94 : zeroOf Try.prog 94 = some [.slice none 0 0, .int .i64 0, .int .i8 0] := by kernel_rfl
theorem zero103 : zeroOf Try.prog 103 = some [.slice none 0 0, .int .u32 0, .int .u32 0] := by kernel_rfl
theorem zero76 : zeroOf Try.prog 76 = some [.int .i64 0, .int .u64 0, .int .u64 0, .slice none 0 0] := by kernel_rfl
theorem len99 : (zeroOf Try.prog 99).map (·.length) = some 518 := by kernel_rfl
theorem zero99 : ∃ c, zeroOf Try.prog 99 = some c ∧ c.length = 518 := by
  have h := len99
  cases hI : zeroOf Try.prog 99 with
  | none => simp [hI] at h
  | some I => simp [hI] at h; exact ⟨I, rfl, h⟩
theorem some109 : (zeroOf Try.prog 109).isSome = true := by kernel_rfl
theorem zero109 : ∃ c, zeroOf Try.prog 109 = some c := Option.isSome_iff_exists.1 some109
end Go.Proofs.Ytjkpfliaflmppaa.Pc
