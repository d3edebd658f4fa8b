/-
  bitLen (20), bucketOf (10).
-/
import Derived.Test.Qxb6601538aBounds
namespace Go.Proofs.Qxb6601538a
open Go Go.RowKit
set_option linter.unusedVariables false
set_option linter.unusedSimpArgs false

/-- x has just i bits. -/
def HasBits : Nat → Int → Prop
  | 0, x => x = 0
  | i + 1, x => wid i ≤ x ∧ x < 2 * wid i
theorem HasBits.half {i : Nat} {x : Int} (h : HasBits (i + 1) x) : HasBits i (x / 2) := by
  obtain ⟨h1, h2⟩ := h
  cases i with
  | zero =>
    have e : wid 0 = 1 := rfl
    show x / 2 = 0
    omega
  | succ i =>
    have e := wid_succ i
    show wid i ≤ x / 2 ∧ x / 2 < 2 * wid i
    omega
theorem HasBits.pos {i : Nat} {x : Int} (h : HasBits (i + 1) x) : 0 < x := by
  have := h.1
  have := wid_pos i
  omega
theorem wid_le63 (p : Nat) (hp : p ≤ 63) : wid p ≤ 9223372036854775808 := by
  have h : (2 : Nat) ^ p ≤ 2 ^ 63 := Nat.pow_le_pow_right (by omega) hp
  have h2 : ((2 ^ p : Nat) : Int) = wid p := by unfold wid; rw [Int.natCast_pow]; rfl
  have h3 : (2 : Nat) ^ 63 = 9223372036854775808 := by decide
  omega
theorem HasBits.small {i : Nat} {x : Int} (hi : i ≤ 64) (h : HasBits i x) : 0 ≤ x ∧ x < 18446744073709551616 := by
  cases i with
  | zero => have : x = 0 := h; omega
  | succ i =>
    obtain ⟨h1, h2⟩ := h
    have := wid_le63 i (by omega)
    have := wid_pos i
    omega

set_option maxHeartbeats 400000 in
theorem bitLen_any (k : Nat) (d : Int) (w : World) (hk : k ≤ 64) (h : HasBits k d) :
    Calls Try.prog 20 #[.int .u64 d] w fun e w' => e = .returned (.int .i64 k) ∧ w' = w := by
  go_enter Try.func20, Try.ntmps20
  go_wp2
  go_loop [0, 3] (fun t i => ∃ (j m : Nat) (x : Int), j + m = k ∧ t = .int .u64 x ∧ i = .int .i64 j ∧ HasBits m x) (fun _ i => k - (intOf i).toNat)
  case atStart => exact ⟨0, k, d, by omega, rfl, rfl, h⟩
  case round =>
    obtain ⟨j, m, x, hjm, rfl, rfl, hb⟩ := hrel
    clear h
    have hs := hb.small (by omega)
    cases m with
    | zero =>
      have hx : x = 0 := hb
      subst hx
      have HJ : Hid (j = k) := show j = k by omega
      clear hjm
      go_wp2
      go_ret
      rw [HJ.out]
      exact ⟨rfl, rfl⟩
    | succ m =>
      have hp := hb.pos
      have HH : Hid _ := hb.half
      have hj : j < k := by omega
      have HJ : Hid (j + (m + 1) = k) := hjm
      clear hb hjm
      go_wp2
      go_round
      case rel => exact ⟨j + 1, m, _, by have := HJ.out; omega, rfl, by go_num, HH.out⟩
      case measure => simp [intOf]; omega

theorem bucket_small (d : Int) (w : World) (h0 : 0 ≤ d) (h1 : d < 1024) : Calls Try.prog 10 #[.int .u64 d] w fun e w' => e = .returned (.tuple #[.int .i64 0, .int .i64 d]) ∧ ∃ q, w' = w.drewN q := by
  go_enter Try.func10, Try.ntmps10
  go_wp2
  go_ret2
  exact ⟨rfl, 0, rfl⟩

theorem wid_ten (p : Nat) : wid (p + 10) = 1024 * wid p := by
  rw [wid_succ (p + 9), wid_succ (p + 8), wid_succ (p + 7), wid_succ (p + 6), wid_succ (p + 5), wid_succ (p + 4), wid_succ (p + 3), wid_succ (p + 2), wid_succ (p + 1), wid_succ p]
  omega

set_option maxHeartbeats 400000 in
theorem bucket_big (p : Nat) (d : Int) (w : World) (hp : p ≤ 53) (h0 : 1024 * wid p ≤ d) (h1 : d < 2048 * wid p) :
    Calls Try.prog 10 #[.int .u64 d] w fun e w' => e = .returned (.tuple #[.int .i64 ((p : Int) + 1), .int .i64 ((d - 1024 * wid p) / wid p)]) ∧ ∃ q, w' = w.drewN q := by
  have e10 := wid_ten p
  have HB : Hid (HasBits (p + 11) d) := ⟨by omega, by omega⟩
  have hs := HB.out.small (by omega)
  have d1 := wid_pos p
  have hw1 : IntKind.u64.wrap (2 ^ p) = wid p := wrap_u (wid p) (by omega) (by have := wid_le63 p (by omega); omega)
  have hw2 : IntKind.u64.wrap (2 ^ (p + 10)) = 1024 * wid p := by
    rw [← e10]
    exact wrap_u (wid (p + 10)) (by omega) (by omega)
  have hq0 : 0 ≤ (d - 1024 * wid p) / wid p := Int.ediv_nonneg (by omega) (by omega)
  have hq1 : (d - 1024 * wid p) / wid p < 1024 := Int.ediv_lt_of_lt_mul (by omega) (by omega)
  clear e10
  go_enter Try.func10, Try.ntmps10
  go_wp2_with fail
  refine (bitLen_any (p + 11) d w (by omega) HB.out).mono ?_
  rintro e w' ⟨rfl, rfl⟩
  clear HB
  go_wp2
  go_quiet (fail)
  go_wp2
  go_ret2
  exact ⟨by simp; omega, nq, rfl⟩

end Go.Proofs.Qxb6601538a
