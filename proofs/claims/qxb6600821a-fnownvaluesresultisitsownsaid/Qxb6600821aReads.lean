/-
  THE FUNCTIONS THAT ONLY READ: zzBytes (17, 24), b1Budget (18), b1BytesEqual (23).
-/
import Derived.Test.Qxb6600821aLaws
import Derived.Test.Qxb6600821aRows
import Derived.Deep.QuietTactic
import Derived.BigQuiet
namespace Go.Proofs.Qxb6600821a
open Go Go.RowKit
set_option linter.unusedVariables false
set_option linter.unusedSimpArgs false

/-- A slice of strings as it is seen in memory: its length n; where there is an element, the strings lie at ⟨b, off + j⟩. -/
def SeenS (w : World) (ao : Option Addr) (n : Nat) (ss : Nat → ByteArray) : Prop :=
  0 < n → ∃ b off, ao = some ⟨b, off, none⟩ ∧ ∀ j, j < n → w.cell? ⟨b, off + j, none⟩ = some (.string (ss j))

/-- Some bool came back. -/
def IsBool (e : Ending) : Prop := ∃ r : Bool, e = .returned (.bool r)

set_option maxHeartbeats 400000 in
theorem budget_any (ao : Option Addr) (n cap : Nat) (ss : Nat → ByteArray) (bud : Int) (w : World) (hn : n ≤ 9223372036854775807) (hb0 : -9223372036854775808 ≤ bud) (hb1 : bud ≤ 1048576)
    (hs : SeenS w ao n ss) (hsz : ∀ j, j < n → (ss j).size ≤ 9223372036854775807) :
    Calls Try.prog 18 #[.slice ao n cap, .int .i64 bud] w fun e w' => ∃ r : Int, e = .returned (.int .i64 r) ∧ w' = w ∧ -1 ≤ r ∧ r ≤ 1048576 ∧ (0 ≤ r → (n : Int) * 16 ≤ bud ∧ ∀ j, j < n → ((ss j).size : Int) ≤ bud) := by
  by_cases hneg : bud < 0
  · go_enter Try.func18, Try.ntmps18
    go_wp2
    go_ret
    exact ⟨-1, rfl, rfl, by omega, by omega, by omega⟩
  by_cases hlen : bud / 16 < n
  · go_enter Try.func18, Try.ntmps18
    go_wp2
    go_ret
    exact ⟨-1, rfl, rfl, by omega, by omega, by omega⟩
  · go_enter Try.func18, Try.ntmps18
    go_wp2
    go_loop [1, 5] (fun t i => ∃ (k : Nat) (r : Int), k ≤ n ∧ i = .int .i64 k ∧ t = .int .i64 r ∧ 0 ≤ r ∧ r ≤ bud ∧ ∀ j, j < k → ((ss j).size : Int) ≤ bud) (fun _ i => n - (intOf i).toNat)
    case atStart => exact ⟨0, _, Nat.zero_le _, rfl, rfl, by omega, by omega, fun j hj => by omega⟩
    case round =>
      obtain ⟨k, r, hk, rfl, rfl, hr0, hr1, hall⟩ := hrel
      by_cases hlt : k < n
      · obtain ⟨b, off, rfl, hc⟩ := hs (by omega)
        have hck := hc k hlt
        have hsk := hsz k hlt
        clear hc
        by_cases hbig : r < ((ss k).size : Int)
        · clear hall
          go_wp2
          go_ret
          exact ⟨-1, rfl, rfl, by omega, by omega, by omega⟩
        · have HALL : Hid (∀ j, j < k → ((ss j).size : Int) ≤ bud) := hall
          clear hall
          go_wp2
          go_round
          case rel =>
            refine ⟨k + 1, _, by omega, by go_num, rfl, by omega, by omega, fun j hj => ?_⟩
            rcases Nat.lt_or_eq_of_le (Nat.lt_succ_iff.1 hj) with h | h
            · exact HALL.out j h
            · subst h; omega
          case measure => simp [intOf]; omega
      · have HALL : Hid (∀ j, j < k → ((ss j).size : Int) ≤ bud) := hall
        clear hall
        go_wp2
        go_ret
        exact ⟨r, rfl, rfl, by omega, by omega, fun _ => ⟨by omega, fun j hj => HALL.out j (by omega)⟩⟩

set_option maxHeartbeats 400000 in
theorem bytes17_any (a0 : Option Addr) (n0 c0 : Nat) (dep : Int) (ao : Option Addr) (n cap : Nat) (tag : Bool) (ss : Nat → ByteArray) (w : World) (hn : n ≤ 9223372036854775807) (hn0 : n0 ≤ 9223372036854775807)
    (hs : SeenS w ao n ss) (hsz : ∀ j, j < n → (ss j).size ≤ 9223372036854775807) :
    Calls Try.prog 17 #[.slice a0 n0 c0, .int .i64 dep, .slice ao n cap, .bool tag] w fun e w' => IsBool e ∧ w' = w := by
  by_cases h1 : 1048576 < n0
  · go_enter Try.func17, Try.ntmps17
    go_wp2
    go_ret
    exact ⟨⟨false, rfl⟩, rfl⟩
  by_cases h2 : 1048576 < n
  · go_enter Try.func17, Try.ntmps17
    go_wp2
    go_ret
    exact ⟨⟨false, rfl⟩, rfl⟩
  by_cases h3 : 1048576 < n0 + n
  · go_enter Try.func17, Try.ntmps17
    go_wp2
    go_ret
    exact ⟨⟨false, rfl⟩, rfl⟩
  go_enter Try.func17, Try.ntmps17
  go_wp2
  go_loop [9, 10] (fun t i => ∃ (k : Nat) (r : Int), k ≤ n ∧ i = .int .i64 k ∧ t = .int .i64 r ∧ 0 ≤ r ∧ r ≤ 1048576) (fun _ i => n - (intOf i).toNat)
  case atStart => exact ⟨0, _, Nat.zero_le _, rfl, rfl, by omega, by omega⟩
  case round =>
    obtain ⟨k, r, hk, rfl, rfl, hr0, hr1⟩ := hrel
    by_cases hlt : k < n
    · obtain ⟨b, off, rfl, hc⟩ := hs (by omega)
      have hck := hc k hlt
      have hsk := hsz k hlt
      clear hc
      by_cases hbig : 1048576 < (ss k).size
      · go_wp2
        go_ret
        exact ⟨⟨false, rfl⟩, rfl⟩
      by_cases hbig2 : 1048576 < r + ((ss k).size : Int)
      · go_wp2
        go_ret
        exact ⟨⟨false, rfl⟩, rfl⟩
      · go_wp2
        go_round
        case rel => exact ⟨k + 1, _, by omega, by go_num, rfl, by omega, by omega⟩
        case measure => simp [intOf]; omega
    · go_wp2
      go_ret
      exact ⟨⟨true, rfl⟩, rfl⟩

set_option maxHeartbeats 400000 in
theorem bytesEqual_any (g1 g2 : Nat) (c1 c2 : Nat) (xs : List Value) (w : World) (f : Nat → Int) (hn : xs.length ≤ 9223372036854775807)
    (h1 : ∀ j, j < xs.length → w.cell? ⟨g1, j, none⟩ = some (.int .u8 (f j))) (h2 : ∀ j, j < xs.length → w.cell? ⟨g2, j, none⟩ = some (.int .u8 (f j))) :
    Calls Try.prog 23 #[.slice (some ⟨g1, 0, none⟩) xs.length c1, .slice (some ⟨g2, 0, none⟩) xs.length c2] w fun e w' => e = .returned (.bool true) ∧ ∃ q, w' = w.drewN q := by
  obtain ⟨n, hN⟩ : ∃ n, xs.length = n := ⟨_, rfl⟩
  rw [hN] at h1 h2 hn ⊢
  clear hN
  go_enter Try.func23, Try.ntmps23
  go_wp2
  go_loopw [5] (fun i wr => ∃ (k q : Nat), k ≤ n ∧ i = .int .i64 k ∧ wr = w.drewN q) (fun i _ => n - (intOf i).toNat)
  case atStart => exact ⟨0, 0, Nat.zero_le _, rfl, rfl⟩
  case round =>
    obtain ⟨k, q, hk, rfl, rfl⟩ := hrel
    by_cases hlt : k < n
    · have a1 := h1 k hlt
      have a2 := h2 k hlt
      clear h1 h2
      have b1 : (k : Int) < (n : Int) := by omega
      have b0 : (0 : Int) ≤ (k : Int) := by omega
      go_wp2
      go_quiet (fail)
      go_wp2
      go_roundw
      case rel => exact ⟨k + 1, _, by omega, by go_num, rfl⟩
      case measure => simp [intOf]; omega
    · clear h1 h2
      go_wp2
      go_ret
      exact ⟨rfl, q, rfl⟩

end Go.Proofs.Qxb6600821a
