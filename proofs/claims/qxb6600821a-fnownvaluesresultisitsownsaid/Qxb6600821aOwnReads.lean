/-
  OF THE TWO LAWS ON ownValues: zzBytes (25, 29), b1NameAt (28).
-/
import Derived.Test.Qxb6600821aFnEnd
namespace Go.Proofs.Qxb6600821a
open Go Go.RowKit
set_option linter.unusedVariables false
set_option linter.unusedSimpArgs false

/-- The name that the i-th attribute is given. -/
def nmOf (nn : Nat) (ns : Nat → ByteArray) (i : Nat) : ByteArray := if i < nn then ns i else ByteArray.empty

theorem nameAt_any (ao : Option Addr) (nn cap : Nat) (ns : Nat → ByteArray) (i : Nat) (w : World) (hn : nn ≤ 9223372036854775807) (hi : i ≤ 9223372036854775807) (hs : SeenS w ao nn ns) :
    Calls Try.prog 28 #[.slice ao nn cap, .int .i64 i] w fun e w' => e = .returned (.string (nmOf nn ns i)) ∧ w' = w := by
  by_cases h : i < nn
  · obtain ⟨b, off, rfl, hc⟩ := hs (by omega)
    have hck := hc i h
    have HN : Hid (nmOf nn ns i = ns i) := if_pos h
    clear hc hs
    go_enter Try.func28, Try.ntmps28
    go_wp2
    go_ret
    rw [HN.out]
    exact ⟨rfl, rfl⟩
  · have HN : Hid (nmOf nn ns i = ByteArray.empty) := if_neg h
    clear hs
    go_enter Try.func28, Try.ntmps28
    go_wp2
    go_ret
    rw [HN.out]
    exact ⟨rfl, rfl⟩

set_option maxHeartbeats 1000000 in
theorem bytes25_any (a0 : Option Addr) (n0 c0 : Nat) (s0 : Nat → ByteArray) (a1 : Option Addr) (n1 c1 : Nat) (s1 : Nat → ByteArray) (w : World) (hn0 : n0 ≤ 9223372036854775807) (hn1 : n1 ≤ 9223372036854775807)
    (hs0 : SeenS w a0 n0 s0) (hz0 : ∀ j, j < n0 → (s0 j).size ≤ 9223372036854775807) (hs1 : SeenS w a1 n1 s1) (hz1 : ∀ j, j < n1 → (s1 j).size ≤ 9223372036854775807) :
    Calls Try.prog 25 #[.slice a0 n0 c0, .slice a1 n1 c1] w fun e w' => IsBool e ∧ w' = w := by
  by_cases h1 : 1048576 < n0
  · go_enter Try.func25, Try.ntmps25
    go_wp2
    go_ret
    exact ⟨⟨false, rfl⟩, rfl⟩
  go_enter Try.func25, Try.ntmps25
  go_wp2
  go_loop [5, 6] (fun t i => ∃ (k : Nat) (r : Int), k ≤ n0 ∧ i = .int .i64 k ∧ t = .int .i64 r ∧ 0 ≤ r ∧ r ≤ 1048576) (fun _ i => n0 - (intOf i).toNat)
  case atStart => exact ⟨0, _, Nat.zero_le _, rfl, rfl, by omega, by omega⟩
  case round =>
    obtain ⟨k, r, hk, rfl, rfl, hr0, hr1⟩ := hrel
    by_cases hlt : k < n0
    · obtain ⟨b, off, rfl, hc⟩ := hs0 (by omega)
      have hck := hc k hlt
      have hsk := hz0 k hlt
      clear hc
      by_cases hbig : 1048576 < (s0 k).size
      · go_wp2
        go_ret
        exact ⟨⟨false, rfl⟩, rfl⟩
      by_cases hbig2 : 1048576 < r + ((s0 k).size : Int)
      · go_wp2
        go_ret
        exact ⟨⟨false, rfl⟩, rfl⟩
      · go_wp2
        go_round
        case rel => exact ⟨k + 1, _, by omega, by go_num, rfl, by omega, by omega⟩
        case measure => simp [intOf]; omega
    · by_cases h2 : 1048576 < n1
      · go_wp2
        go_ret
        exact ⟨⟨false, rfl⟩, rfl⟩
      by_cases h3 : 1048576 < r + (n1 : Int)
      · go_wp2
        go_ret
        exact ⟨⟨false, rfl⟩, rfl⟩
      go_wp2
      go_loop [5, 7] (fun t i => ∃ (k : Nat) (r : Int), k ≤ n1 ∧ i = .int .i64 k ∧ t = .int .i64 r ∧ 0 ≤ r ∧ r ≤ 1048576) (fun _ i => n1 - (intOf i).toNat)
      case atStart => exact ⟨0, _, Nat.zero_le _, rfl, rfl, by omega, by omega⟩
      case round =>
        obtain ⟨k, r, hk, rfl, rfl, hr0, hr1⟩ := hrel
        by_cases hlt : k < n1
        · obtain ⟨b, off, rfl, hc⟩ := hs1 (by omega)
          have hck := hc k hlt
          have hsk := hz1 k hlt
          clear hc
          by_cases hbig : 1048576 < (s1 k).size
          · go_wp2
            go_ret
            exact ⟨⟨false, rfl⟩, rfl⟩
          by_cases hbig2 : 1048576 < r + ((s1 k).size : Int)
          · go_wp2
            go_ret
            exact ⟨⟨false, rfl⟩, rfl⟩
          · go_wp2
            go_round
            case rel => exact ⟨k + 1, _, by omega, by go_num, rfl, by omega, by omega⟩
            case measure => simp [intOf]; omega
        · go_wp2
          go_ret
          exact ⟨⟨true, rfl⟩, rfl⟩

set_option maxHeartbeats 1000000 in
theorem bytes29_any (a0 : Option Addr) (n0 c0 : Nat) (s0 : Nat → ByteArray) (a1 : Option Addr) (n1 c1 : Nat) (s1 : Nat → ByteArray) (w : World) (hn0 : n0 ≤ 9223372036854775807) (hn1 : n1 ≤ 9223372036854775807)
    (hs0 : SeenS w a0 n0 s0) (hz0 : ∀ j, j < n0 → (s0 j).size ≤ 9223372036854775807) (hs1 : SeenS w a1 n1 s1) (hz1 : ∀ j, j < n1 → (s1 j).size ≤ 9223372036854775807) :
    Calls Try.prog 29 #[.slice a0 n0 c0, .slice a1 n1 c1] w fun e w' => IsBool e ∧ w' = w := by
  by_cases h1 : 1048576 < n0
  · go_enter Try.func29, Try.ntmps29
    go_wp2
    go_ret
    exact ⟨⟨false, rfl⟩, rfl⟩
  go_enter Try.func29, Try.ntmps29
  go_wp2
  go_loop [5, 6] (fun t i => ∃ (k : Nat) (r : Int), k ≤ n0 ∧ i = .int .i64 k ∧ t = .int .i64 r ∧ 0 ≤ r ∧ r ≤ 1048576) (fun _ i => n0 - (intOf i).toNat)
  case atStart => exact ⟨0, _, Nat.zero_le _, rfl, rfl, by omega, by omega⟩
  case round =>
    obtain ⟨k, r, hk, rfl, rfl, hr0, hr1⟩ := hrel
    by_cases hlt : k < n0
    · obtain ⟨b, off, rfl, hc⟩ := hs0 (by omega)
      have hck := hc k hlt
      have hsk := hz0 k hlt
      clear hc
      by_cases hbig : 1048576 < (s0 k).size
      · go_wp2
        go_ret
        exact ⟨⟨false, rfl⟩, rfl⟩
      by_cases hbig2 : 1048576 < r + ((s0 k).size : Int)
      · go_wp2
        go_ret
        exact ⟨⟨false, rfl⟩, rfl⟩
      · go_wp2
        go_round
        case rel => exact ⟨k + 1, _, by omega, by go_num, rfl, by omega, by omega⟩
        case measure => simp [intOf]; omega
    · by_cases h2 : 1048576 < n1
      · go_wp2
        go_ret
        exact ⟨⟨false, rfl⟩, rfl⟩
      by_cases h3 : 1048576 < r + (n1 : Int)
      · go_wp2
        go_ret
        exact ⟨⟨false, rfl⟩, rfl⟩
      go_wp2
      go_loop [5, 7] (fun t i => ∃ (k : Nat) (r : Int), k ≤ n1 ∧ i = .int .i64 k ∧ t = .int .i64 r ∧ 0 ≤ r ∧ r ≤ 1048576) (fun _ i => n1 - (intOf i).toNat)
      case atStart => exact ⟨0, _, Nat.zero_le _, rfl, rfl, by omega, by omega⟩
      case round =>
        obtain ⟨k, r, hk, rfl, rfl, hr0, hr1⟩ := hrel
        by_cases hlt : k < n1
        · obtain ⟨b, off, rfl, hc⟩ := hs1 (by omega)
          have hck := hc k hlt
          have hsk := hz1 k hlt
          clear hc
          by_cases hbig : 1048576 < (s1 k).size
          · go_wp2
            go_ret
            exact ⟨⟨false, rfl⟩, rfl⟩
          by_cases hbig2 : 1048576 < r + ((s1 k).size : Int)
          · go_wp2
            go_ret
            exact ⟨⟨false, rfl⟩, rfl⟩
          · go_wp2
            go_round
            case rel => exact ⟨k + 1, _, by omega, by go_num, rfl, by omega, by omega⟩
            case measure => simp [intOf]; omega
        · go_wp2
          go_ret
          exact ⟨⟨true, rfl⟩, rfl⟩

end Go.Proofs.Qxb6600821a
