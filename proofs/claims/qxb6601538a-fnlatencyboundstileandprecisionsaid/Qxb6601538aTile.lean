/-
  FnLatencyBoundsTileAndPrecision (4): the walk.
-/
import Derived.Test.Qxb6601538aBounds
namespace Go.Proofs.Qxb6601538a
open Go Go.RowKit
set_option linter.unusedVariables false
set_option linter.unusedSimpArgs false

theorem and_pow (p : Nat) (hp : p ≤ 52) : bits .and .u64 (wid p) (wid p - 1) = 0 := by
  match p, hp with
  | 0, _ => exact by decide +kernel
  | 1, _ => exact by decide +kernel
  | 2, _ => exact by decide +kernel
  | 3, _ => exact by decide +kernel
  | 4, _ => exact by decide +kernel
  | 5, _ => exact by decide +kernel
  | 6, _ => exact by decide +kernel
  | 7, _ => exact by decide +kernel
  | 8, _ => exact by decide +kernel
  | 9, _ => exact by decide +kernel
  | 10, _ => exact by decide +kernel
  | 11, _ => exact by decide +kernel
  | 12, _ => exact by decide +kernel
  | 13, _ => exact by decide +kernel
  | 14, _ => exact by decide +kernel
  | 15, _ => exact by decide +kernel
  | 16, _ => exact by decide +kernel
  | 17, _ => exact by decide +kernel
  | 18, _ => exact by decide +kernel
  | 19, _ => exact by decide +kernel
  | 20, _ => exact by decide +kernel
  | 21, _ => exact by decide +kernel
  | 22, _ => exact by decide +kernel
  | 23, _ => exact by decide +kernel
  | 24, _ => exact by decide +kernel
  | 25, _ => exact by decide +kernel
  | 26, _ => exact by decide +kernel
  | 27, _ => exact by decide +kernel
  | 28, _ => exact by decide +kernel
  | 29, _ => exact by decide +kernel
  | 30, _ => exact by decide +kernel
  | 31, _ => exact by decide +kernel
  | 32, _ => exact by decide +kernel
  | 33, _ => exact by decide +kernel
  | 34, _ => exact by decide +kernel
  | 35, _ => exact by decide +kernel
  | 36, _ => exact by decide +kernel
  | 37, _ => exact by decide +kernel
  | 38, _ => exact by decide +kernel
  | 39, _ => exact by decide +kernel
  | 40, _ => exact by decide +kernel
  | 41, _ => exact by decide +kernel
  | 42, _ => exact by decide +kernel
  | 43, _ => exact by decide +kernel
  | 44, _ => exact by decide +kernel
  | 45, _ => exact by decide +kernel
  | 46, _ => exact by decide +kernel
  | 47, _ => exact by decide +kernel
  | 48, _ => exact by decide +kernel
  | 49, _ => exact by decide +kernel
  | 50, _ => exact by decide +kernel
  | 51, _ => exact by decide +kernel
  | 52, _ => exact by decide +kernel
  | q + 53, h => exact absurd h (by omega)

set_option maxHeartbeats 400000 in
theorem tile_pos (p : Nat) (c : Int) (w : World) (hp : p ≤ 52) (hc0 : 0 ≤ c) (hc1 : c < 1024) :
    Calls Try.prog 4 #[.int .i64 ((p : Int) + 1), .int .i64 c] w fun e w' => e = .returned (.bool true) ∧ ∃ q, w' = w.drewN q := by
  have d1 := wid_pos p
  have d2 := wid_le p hp
  have d3 := low_ge p c hc0
  have d4 := low_le p c (by omega)
  go_enter Try.func4, Try.ntmps4
  go_wp2_with fail
  refine (zzbounds_pos p c w hp hc0 hc1).mono ?_
  rintro e w' ⟨rfl, q, rfl⟩
  have hand := and_pow p hp
  by_cases hc : c = 1023
  · subst hc
    by_cases hp2 : p = 52
    · subst hp2
      have hl := low_last
      go_wp2_with fail
      go_ret
      exact ⟨rfl, q, rfl⟩
    · have HL : Hid _ := low_row p
      go_wp2_with fail
      refine (zzbounds_pos (p + 1) 0 _ (by omega) (by omega) (by omega)).mono ?_
      rintro e w' ⟨rfl, q2, rfl⟩
      go_wp2_with fail
      go_ret
      exact ⟨by rw [HL.out]; simp, _, rfl⟩
  · have HL : Hid _ := low_next p c
    go_wp2_with fail
    refine (zzbounds_pos p (c + 1) _ hp (by omega) (by omega)).mono ?_
    rintro e w' ⟨rfl, q2, rfl⟩
    go_wp2_with fail
    go_ret
    exact ⟨by rw [HL.out]; simp, _, rfl⟩

theorem low_zero : low 0 0 = 1024 := by decide

set_option maxHeartbeats 400000 in
theorem tile_zero (c : Int) (w : World) (hc0 : 0 ≤ c) (hc1 : c < 1024) :
    Calls Try.prog 4 #[.int .i64 0, .int .i64 c] w fun e w' => e = .returned (.bool true) ∧ ∃ q, w' = w.drewN q := by
  have hand : bits .and .u64 1 0 = 0 := by decide
  by_cases hc : c = 1023
  · subst hc
    go_enter Try.func4, Try.ntmps4
    go_wp2_with fail
    refine (zzbounds_zero 1023 w (by omega) (by omega)).mono ?_
    rintro e w' ⟨rfl, q, rfl⟩
    go_wp2_with fail
    have HL : Hid _ := low_zero
    refine (zzbounds_pos 0 0 _ (by omega) (by omega) (by omega)).mono ?_
    rintro e w' ⟨rfl, q2, rfl⟩
    go_wp2_with fail
    go_ret
    exact ⟨by rw [HL.out]; rfl, _, rfl⟩
  · by_cases hcz : c = 0
    · subst hcz
      go_enter Try.func4, Try.ntmps4
      go_wp2_with fail
      refine (zzbounds_zero 0 w (by omega) (by omega)).mono ?_
      rintro e w' ⟨rfl, q, rfl⟩
      go_wp2_with fail
      refine (zzbounds_zero 1 _ (by omega) (by omega)).mono ?_
      rintro e w' ⟨rfl, q2, rfl⟩
      go_wp2_with fail
      go_ret
      exact ⟨rfl, _, rfl⟩
    · go_enter Try.func4, Try.ntmps4
      go_wp2_with fail
      refine (zzbounds_zero c w (by omega) (by omega)).mono ?_
      rintro e w' ⟨rfl, q, rfl⟩
      go_wp2_with fail
      refine (zzbounds_zero (c + 1) _ (by omega) (by omega)).mono ?_
      rintro e w' ⟨rfl, q2, rfl⟩
      go_wp2_with fail
      go_ret
      exact ⟨by simp, _, rfl⟩

theorem tile_out (r c : Int) (w : World) (h : r < 0 ∨ 54 ≤ r ∨ c < 0 ∨ 1024 ≤ c) :
    Calls Try.prog 4 #[.int .i64 r, .int .i64 c] w fun e w' => e = .returned (.bool true) ∧ ∃ q, w' = w.drewN q := by
  by_cases h1 : r < 0
  · go_enter Try.func4, Try.ntmps4
    go_wp2
    go_ret
    exact ⟨rfl, 0, rfl⟩
  by_cases h2 : 54 ≤ r
  · go_enter Try.func4, Try.ntmps4
    go_wp2
    go_ret
    exact ⟨rfl, 0, rfl⟩
  by_cases h3 : c < 0
  · go_enter Try.func4, Try.ntmps4
    go_wp2
    go_ret
    exact ⟨rfl, 0, rfl⟩
  have h4 : 1024 ≤ c := by omega
  go_enter Try.func4, Try.ntmps4
  go_wp2
  go_ret
  exact ⟨rfl, 0, rfl⟩

theorem tile_any (r c : Int) (w : World) : Calls Try.prog 4 #[.int .i64 r, .int .i64 c] w fun e w' => e = .returned (.bool true) ∧ ∃ q, w' = w.drewN q := by
  by_cases h : r < 0 ∨ 54 ≤ r ∨ c < 0 ∨ 1024 ≤ c
  · exact tile_out r c w h
  · by_cases h0 : r = 0
    · subst h0
      exact tile_zero c w (by omega) (by omega)
    · obtain ⟨p, rfl⟩ : ∃ p : Nat, r = (p : Int) + 1 := ⟨(r - 1).toNat, by omega⟩
      exact tile_pos p c w (by omega) (by omega) (by omega)
end Go.Proofs.Qxb6601538a
