import Derived.Test.Qxb6000923aProg
import Derived.WalkKit
namespace Go.Proofs.Qxb6000923a.Relay
open Go.RowKit

theorem low_one : bits .and .u64 1 4294967295 = 1 := by rw [and_low32 1 (by omega) (by omega)]; rfl
theorem low_small (y : Int) (h0 : 0 ≤ y) (h1 : y ≤ 32768) : bits .and .u64 y 4294967295 = y := by rw [and_low32 y h0 (by omega)]; omega
theorem high_small (y : Int) (h0 : 0 ≤ y) (h1 : y ≤ 32768) : y / 4294967296 = 0 := by omega
theorem wrap_small (y : Int) (h0 : 0 ≤ y) (h1 : y ≤ 32768) : IntKind.u64.wrap y = y := by simp [IntKind.wrap, IntKind.bits, IntKind.signed]; omega
theorem low_zero : bits .and .u64 0 4294967295 = 0 := by rw [and_low32 0 (by omega) (by omega)]; rfl

set_option maxHeartbeats 400000 in
theorem mul64_any (y : Int) (w : World) (h0 : 0 ≤ y) (h1 : y ≤ 32768) :
    Calls Try.prog 34 #[.int .u64 1, .int .u64 y] w fun e w' => e = .returned (.tuple #[.int .u64 0, .int .u64 y]) ∧ w = w' := by
  have e1 := low_one
  have e2 := low_small y h0 h1
  have e3 := high_small y h0 h1
  have e4 := wrap_small y h0 h1
  have e5 := low_zero
  go_enter Try.func34, Try.ntmps34
  go_wp2
  go_ret2
  exact ⟨rfl, rfl⟩

set_option maxHeartbeats 400000 in
theorem mul_any (y : Int) (w : World) (h0 : 0 ≤ y) (h1 : y ≤ 32768) :
    Calls Try.prog 32 #[.int .u64 1, .int .u64 y] w fun e w' => e = .returned (.tuple #[.int .u64 0, .int .u64 y]) ∧ w = w' := by
  go_enter Try.func32, Try.ntmps32
  go_wp2_with (go_at_call 34; refine (mul64_any y _ h0 h1).mono ?_; rintro e w' ⟨rfl, rfl⟩)
  go_ret2
  exact ⟨rfl, rfl⟩
end Go.Proofs.Qxb6000923a.Relay
