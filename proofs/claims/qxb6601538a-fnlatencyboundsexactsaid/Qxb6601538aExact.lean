/-
  FnLatencyBoundsExact (3): the walk.
-/
import Derived.Test.Qxb6601538aBucket
namespace Go.Proofs.Qxb6601538a
open Go Go.RowKit
set_option linter.unusedVariables false
set_option linter.unusedSimpArgs false

theorem div_at (D c r : Int) (hD : 1 ≤ D) (h0 : 0 ≤ r) (h1 : r < D) : (c * D + r) / D = c := by
  rw [Int.add_comm, Int.add_mul_ediv_right _ _ (by omega), Int.ediv_eq_zero_of_lt h0 h1]
  omega
theorem col_low (p : Nat) (c : Int) : (low p c - 1024 * wid p) / wid p = c := by
  have e : low p c - 1024 * wid p = c * wid p + 0 := by rw [low_eq, Int.add_mul]; omega
  rw [e]
  exact div_at _ _ _ (wid_pos p) (by omega) (by have := wid_pos p; omega)
theorem col_last (p : Nat) (c : Int) : (low p c + (wid p - 1) - 1024 * wid p) / wid p = c := by
  have e : low p c + (wid p - 1) - 1024 * wid p = c * wid p + (wid p - 1) := by rw [low_eq, Int.add_mul]; omega
  rw [e]
  exact div_at _ _ _ (wid_pos p) (by have := wid_pos p; omega) (by omega)
theorem col_before (p : Nat) (c : Int) : (low p c - 1 - 1024 * wid p) / wid p = c - 1 := by
  have e : low p c - 1 - 1024 * wid p = (c - 1) * wid p + (wid p - 1) := by rw [low_eq, Int.add_mul, Int.sub_mul]; omega
  rw [e]
  exact div_at _ _ _ (wid_pos p) (by have := wid_pos p; omega) (by omega)
theorem col_behind (p : Nat) (c : Int) : (low p c + (wid p - 1) + 1 - 1024 * wid p) / wid p = c + 1 := by
  have e : low p c + (wid p - 1) + 1 - 1024 * wid p = (c + 1) * wid p + 0 := by rw [low_eq, Int.add_mul, Int.add_mul]; omega
  rw [e]
  exact div_at _ _ _ (wid_pos p) (by omega) (by have := wid_pos p; omega)

/-- The duration ahead of a bucket is another's. -/
theorem before_any (p : Nat) (c : Int) (w : World) (hp : p ≤ 52) (hc0 : 0 ≤ c) (hc1 : c < 1024) :
    Calls Try.prog 10 #[.int .u64 (low p c - 1)] w fun e w' => ∃ r' c' : Int, e = .returned (.tuple #[.int .i64 r', .int .i64 c']) ∧ (r' ≠ (p : Int) + 1 ∨ c' ≠ c) ∧ ∃ q, w' = w.drewN q := by
  have d1 := wid_pos p
  have d3 := low_ge p c hc0
  have d4 := low_le p c (by omega)
  by_cases hc : c = 0
  · subst hc
    have e0 : low p 0 = 1024 * wid p := by rw [low_eq, Int.add_zero]
    cases p with
    | zero =>
      have e1 : wid 0 = 1 := rfl
      refine (bucket_small (low 0 0 - 1) w (by omega) (by omega)).mono ?_
      rintro e w' ⟨rfl, q, rfl⟩
      exact ⟨_, _, rfl, .inl (by omega), q, rfl⟩
    | succ p =>
      have e1 := wid_succ p
      have e2 := wid_pos p
      refine (bucket_big p (low (p + 1) 0 - 1) w (by omega) (by omega) (by omega)).mono ?_
      rintro e w' ⟨rfl, q, rfl⟩
      exact ⟨_, _, rfl, .inl (by omega), q, rfl⟩
  · have e1 : low p c = low p (c - 1) + wid p := by rw [← low_next]; congr 1; omega
    have e2 := low_ge p (c - 1) (by omega)
    refine (bucket_big p (low p c - 1) w (by omega) (by omega) (by omega)).mono ?_
    rintro e w' ⟨rfl, q, rfl⟩
    exact ⟨_, _, rfl, .inr (by rw [col_before]; omega), q, rfl⟩

/-- .. and the one behind it. -/
theorem behind_any (p : Nat) (c : Int) (w : World) (hp : p ≤ 52) (hc0 : 0 ≤ c) (hc1 : c < 1024) :
    Calls Try.prog 10 #[.int .u64 (low p c + (wid p - 1) + 1)] w fun e w' => ∃ r' c' : Int, e = .returned (.tuple #[.int .i64 r', .int .i64 c']) ∧ (r' ≠ (p : Int) + 1 ∨ c' ≠ c) ∧ ∃ q, w' = w.drewN q := by
  have d1 := wid_pos p
  have d3 := low_ge p c hc0
  have e1 := low_next p c
  by_cases hc : c = 1023
  · subst hc
    have e2 := wid_succ p
    have e3 : low p 1023 = 2047 * wid p := rfl
    refine (bucket_big (p + 1) (low p 1023 + (wid p - 1) + 1) w (by omega) (by omega) (by omega)).mono ?_
    rintro e w' ⟨rfl, q, rfl⟩
    exact ⟨_, _, rfl, .inl (by omega), q, rfl⟩
  · have d4 := low_le p (c + 1) (by omega)
    refine (bucket_big p (low p c + (wid p - 1) + 1) w (by omega) (by omega) (by omega)).mono ?_
    rintro e w' ⟨rfl, q, rfl⟩
    exact ⟨_, _, rfl, .inr (by rw [col_behind]; omega), q, rfl⟩

set_option maxHeartbeats 1000000 in
theorem exact_pos (p : Nat) (c : Int) (w : World) (hp : p ≤ 52) (hc0 : 0 ≤ c) (hc1 : c < 1024) :
    Calls Try.prog 3 #[.int .i64 ((p : Int) + 1), .int .i64 c] w fun e w' => e = .returned (.bool true) ∧ ∃ q, w' = w.drewN q := by
  have d1 := wid_pos p
  have d2 := wid_le p hp
  have d3 := low_ge p c hc0
  have d4 := low_le p c (by omega)
  have H1 : Hid _ := col_low p c
  have H2 : Hid _ := col_last p c
  go_enter Try.func3, Try.ntmps3
  go_wp2_with fail
  refine (zzbounds_pos p c w hp hc0 hc1).mono ?_
  rintro e w' ⟨rfl, q, rfl⟩
  go_wp2_with fail
  refine (bucket_big p (low p c) _ (by omega) (by omega) (by omega)).mono ?_
  rintro e w' ⟨rfl, q1, rfl⟩
  rw [H1.out]
  go_wp2_with fail
  refine (bucket_big p (low p c + (wid p - 1)) _ (by omega) (by omega) (by omega)).mono ?_
  rintro e w' ⟨rfl, q2, rfl⟩
  rw [H2.out]
  go_wp2_with fail
  refine (before_any p c _ hp hc0 hc1).mono ?_
  rintro e w' ⟨r3, c3, rfl, hne3, q3, rfl⟩
  have h3 : ((r3 == (p : Int) + 1) = false) ∨ (r3 = (p : Int) + 1 ∧ (c3 == c) = false) := by
    by_cases hr : r3 = (p : Int) + 1
    · exact .inr ⟨hr, by simp; omega⟩
    · exact .inl (by simp; omega)
  clear hne3
  rcases h3 with h3 | ⟨h3, h3c⟩
  all_goals
    go_wp2_with fail
    refine (behind_any p c _ hp hc0 hc1).mono ?_
    rintro e w' ⟨r4, c4, rfl, hne4, q4, rfl⟩
    have h4 : ((r4 == (p : Int) + 1) = false) ∨ (r4 = (p : Int) + 1 ∧ (c4 == c) = false) := by
      by_cases hr : r4 = (p : Int) + 1
      · exact .inr ⟨hr, by simp; omega⟩
      · exact .inl (by simp; omega)
    clear hne4
    rcases h4 with h4 | ⟨h4, h4c⟩
    all_goals
      go_wp2
      go_ret
      exact ⟨rfl, _, rfl⟩

set_option maxHeartbeats 1000000 in
theorem exact_zero (c : Int) (w : World) (hc0 : 0 ≤ c) (hc1 : c < 1024) :
    Calls Try.prog 3 #[.int .i64 0, .int .i64 c] w fun e w' => e = .returned (.bool true) ∧ ∃ q, w' = w.drewN q := by
  by_cases hz : c = 0
  · subst hz
    go_enter Try.func3, Try.ntmps3
    go_wp2_with fail
    refine (zzbounds_zero 0 w (by omega) (by omega)).mono ?_
    rintro e w' ⟨rfl, q, rfl⟩
    go_wp2_with fail
    refine (bucket_small 0 _ (by omega) (by omega)).mono ?_
    rintro e w' ⟨rfl, q1, rfl⟩
    go_wp2_with fail
    refine (bucket_small 0 _ (by omega) (by omega)).mono ?_
    rintro e w' ⟨rfl, q2, rfl⟩
    go_wp2_with fail
    refine (bucket_small 1 _ (by omega) (by omega)).mono ?_
    rintro e w' ⟨rfl, q3, rfl⟩
    go_wp2
    go_ret
    exact ⟨rfl, _, rfl⟩
  · have hb : ∀ W : World, Calls Try.prog 10 #[.int .u64 (c + 1)] W fun e w' => ∃ r' c' : Int, e = .returned (.tuple #[.int .i64 r', .int .i64 c']) ∧ (r' ≠ 0 ∨ c' ≠ c) ∧ ∃ q, w' = W.drewN q := by
      intro W
      by_cases h3 : c = 1023
      · subst h3
        have e1 : wid 0 = 1 := rfl
        refine (bucket_big 0 (1023 + 1) W (by omega) (by omega) (by omega)).mono ?_
        rintro e w' ⟨rfl, q, rfl⟩
        exact ⟨_, _, rfl, .inl (by omega), q, rfl⟩
      · refine (bucket_small (c + 1) W (by omega) (by omega)).mono ?_
        rintro e w' ⟨rfl, q, rfl⟩
        exact ⟨_, _, rfl, .inr (by omega), q, rfl⟩
    have HB : Hid _ := hb
    clear hb
    go_enter Try.func3, Try.ntmps3
    go_wp2_with fail
    refine (zzbounds_zero c w (by omega) (by omega)).mono ?_
    rintro e w' ⟨rfl, q, rfl⟩
    go_wp2_with fail
    refine (bucket_small c _ (by omega) (by omega)).mono ?_
    rintro e w' ⟨rfl, q1, rfl⟩
    go_wp2_with fail
    refine (bucket_small c _ (by omega) (by omega)).mono ?_
    rintro e w' ⟨rfl, q2, rfl⟩
    go_wp2_with fail
    refine (bucket_small (c - 1) _ (by omega) (by omega)).mono ?_
    rintro e w' ⟨rfl, q3, rfl⟩
    go_wp2_with fail
    refine Calls.mono (HB.out _) ?_
    rintro e w' ⟨r4, c4, rfl, hne4, q4, rfl⟩
    have h4 : ((r4 == 0) = false) ∨ (r4 = 0 ∧ (c4 == c) = false) := by
      by_cases hr : r4 = 0
      · exact .inr ⟨hr, by simp; omega⟩
      · exact .inl (by simp; omega)
    clear hne4 HB
    rcases h4 with h4 | ⟨h4, h4c⟩
    all_goals
      go_wp2
      go_ret
      exact ⟨rfl, _, rfl⟩

theorem exact_out (r c : Int) (w : World) (h : r < 0 ∨ 54 ≤ r ∨ c < 0 ∨ 1024 ≤ c) :
    Calls Try.prog 3 #[.int .i64 r, .int .i64 c] w fun e w' => e = .returned (.bool true) ∧ ∃ q, w' = w.drewN q := by
  by_cases h1 : r < 0
  · go_enter Try.func3, Try.ntmps3
    go_wp2
    go_ret
    exact ⟨rfl, 0, rfl⟩
  by_cases h2 : 54 ≤ r
  · go_enter Try.func3, Try.ntmps3
    go_wp2
    go_ret
    exact ⟨rfl, 0, rfl⟩
  by_cases h3 : c < 0
  · go_enter Try.func3, Try.ntmps3
    go_wp2
    go_ret
    exact ⟨rfl, 0, rfl⟩
  have h4 : 1024 ≤ c := by omega
  go_enter Try.func3, Try.ntmps3
  go_wp2
  go_ret
  exact ⟨rfl, 0, rfl⟩

theorem exact_any (r c : Int) (w : World) : Calls Try.prog 3 #[.int .i64 r, .int .i64 c] w fun e w' => e = .returned (.bool true) ∧ ∃ q, w' = w.drewN q := by
  by_cases h : r < 0 ∨ 54 ≤ r ∨ c < 0 ∨ 1024 ≤ c
  · exact exact_out r c w h
  · by_cases h0 : r = 0
    · subst h0
      exact exact_zero c w (by omega) (by omega)
    · obtain ⟨p, rfl⟩ : ∃ p : Nat, r = (p : Int) + 1 := ⟨(r - 1).toNat, by omega⟩
      exact exact_pos p c w (by omega) (by omega) (by omega)
end Go.Proofs.Qxb6601538a
