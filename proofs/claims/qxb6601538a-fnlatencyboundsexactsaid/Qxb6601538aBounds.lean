/-
  latencyBounds (19), ZZLatencyBounds (9).
-/
import Derived.Test.Qxb6601538aRows
import Derived.WalkKit
import Derived.Deep.QuietTactic
import Derived.BigQuiet
namespace Go.Proofs.Qxb6601538a
open Go Go.RowKit
set_option linter.unusedVariables false
set_option linter.unusedSimpArgs false

/-- The width of a bucket of row p + 1, and the least duration that it counts. -/
def wid (p : Nat) : Int := 2 ^ p
def low (p : Nat) (c : Int) : Int := (1024 + c) * 2 ^ p

theorem wid_pos (p : Nat) : 1 ≤ wid p := by
  have h : 0 < (2 : Int) ^ p := Int.pow_pos (by omega)
  unfold wid
  omega
theorem wid_le (p : Nat) (hp : p ≤ 52) : wid p ≤ 4503599627370496 := by
  have h : (2 : Nat) ^ p ≤ 2 ^ 52 := Nat.pow_le_pow_right (by omega) hp
  have h2 : ((2 ^ p : Nat) : Int) = wid p := by unfold wid; rw [Int.natCast_pow]; rfl
  have h3 : (2 : Nat) ^ 52 = 4503599627370496 := by decide
  omega
theorem low_eq (p : Nat) (c : Int) : low p c = (1024 + c) * wid p := rfl
theorem low_next (p : Nat) (c : Int) : low p (c + 1) = low p c + wid p := by
  rw [low_eq, low_eq, ← Int.add_assoc, Int.add_mul (1024 + c) 1, Int.one_mul]
theorem wid_succ (p : Nat) : wid (p + 1) = 2 * wid p := by
  unfold wid
  rw [Int.pow_succ, Int.mul_comm]
theorem low_row (p : Nat) : low (p + 1) 0 = low p 1023 + wid p := by
  rw [low_eq, low_eq, wid_succ]
  omega
theorem low_ge (p : Nat) (c : Int) (hc : 0 ≤ c) : 1024 * wid p ≤ low p c := by
  rw [low_eq]
  exact Int.mul_le_mul_of_nonneg_right (by omega) (by have := wid_pos p; omega)
theorem low_le (p : Nat) (c : Int) (hc : c ≤ 1023) : low p c ≤ 2047 * wid p := by
  rw [low_eq]
  exact Int.mul_le_mul_of_nonneg_right (by omega) (by have := wid_pos p; omega)
theorem wid_last : wid 52 = 4503599627370496 := by decide
theorem low_last : low 52 1023 + wid 52 = 9223372036854775808 := by decide
theorem wrap_u (x : Int) (h0 : 0 ≤ x) (h1 : x < 18446744073709551616) : IntKind.u64.wrap x = x := by
  rw [IntKind.wrap_u64]
  omega

set_option maxHeartbeats 400000 in
theorem bounds_pos (p : Nat) (c : Int) (w : World) (hp : p ≤ 52) (hc0 : 0 ≤ c) (hc1 : c < 1024) :
    Calls Try.prog 19 #[.int .i64 ((p : Int) + 1), .int .i64 c] w fun e w' => e = .returned (.tuple #[.int .u64 (low p c), .int .u64 (wid p)]) ∧ ∃ q, w' = w.drewN q := by
  have H1 : Hid (IntKind.u64.wrap ((1024 + c) * 2 ^ p) = low p c) := by
    have h1 := wid_le p hp
    have h2 := wid_pos p
    have h3 := low_ge p c hc0
    have h4 := low_le p c (by omega)
    exact wrap_u (low p c) (by omega) (by omega)
  have H2 : Hid (IntKind.u64.wrap (2 ^ p) = wid p) := by
    have h1 := wid_le p hp
    have h2 := wid_pos p
    exact wrap_u (wid p) (by omega) (by omega)
  go_enter Try.func19, Try.ntmps19
  go_wp2
  go_quiet (fail)
  go_wp2
  go_ret2
  rw [← H1.out, ← H2.out]
  exact ⟨rfl, nq, rfl⟩

theorem bounds_zero (c : Int) (w : World) (hc0 : 0 ≤ c) (hc1 : c < 1024) :
    Calls Try.prog 19 #[.int .i64 0, .int .i64 c] w fun e w' => e = .returned (.tuple #[.int .u64 c, .int .u64 1]) ∧ ∃ q, w' = w.drewN q := by
  go_enter Try.func19, Try.ntmps19
  go_wp2
  go_ret2
  exact ⟨rfl, 0, rfl⟩

theorem zzbounds_pos (p : Nat) (c : Int) (w : World) (hp : p ≤ 52) (hc0 : 0 ≤ c) (hc1 : c < 1024) :
    Calls Try.prog 9 #[.int .i64 ((p : Int) + 1), .int .i64 c] w fun e w' => e = .returned (.tuple #[.int .u64 (low p c), .int .u64 (wid p)]) ∧ ∃ q, w' = w.drewN q := by
  go_enter Try.func9, Try.ntmps9
  go_wp2_with fail
  refine (bounds_pos p c w hp hc0 hc1).mono ?_
  rintro e w' ⟨rfl, q, rfl⟩
  go_wp2
  go_ret2
  exact ⟨rfl, q, rfl⟩
theorem zzbounds_zero (c : Int) (w : World) (hc0 : 0 ≤ c) (hc1 : c < 1024) :
    Calls Try.prog 9 #[.int .i64 0, .int .i64 c] w fun e w' => e = .returned (.tuple #[.int .u64 c, .int .u64 1]) ∧ ∃ q, w' = w.drewN q := by
  go_enter Try.func9, Try.ntmps9
  go_wp2_with fail
  refine (bounds_zero c w hc0 hc1).mono ?_
  rintro e w' ⟨rfl, q, rfl⟩
  go_wp2
  go_ret2
  exact ⟨rfl, q, rfl⟩
end Go.Proofs.Qxb6601538a
