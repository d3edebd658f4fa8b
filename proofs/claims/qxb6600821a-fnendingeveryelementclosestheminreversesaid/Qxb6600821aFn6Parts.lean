/-
  FnEndingEveryElementClosesThemInReverse (6): zzBytes (24), what End writes again and again, the states of the two loops.
-/
import Derived.Test.Qxb6600821aFnEnd
namespace Go.Proofs.Qxb6600821a
open Go Go.RowKit
set_option linter.unusedVariables false
set_option linter.unusedSimpArgs false

set_option maxHeartbeats 400000 in
theorem bytes24_any (a0 : Option Addr) (n0 c0 : Nat) (dep : Int) (ao : Option Addr) (n cap : Nat) (tag : Bool) (ss : Nat → ByteArray) (w : World) (hn : n ≤ 9223372036854775807) (hn0 : n0 ≤ 9223372036854775807)
    (hs : SeenS w ao n ss) (hsz : ∀ j, j < n → (ss j).size ≤ 9223372036854775807) :
    Calls Try.prog 24 #[.slice a0 n0 c0, .int .i64 dep, .slice ao n cap, .bool tag] w fun e w' => IsBool e ∧ w' = w := by
  by_cases h1 : 1048576 < n0
  · go_enter Try.func24, Try.ntmps24
    go_wp2
    go_ret
    exact ⟨⟨false, rfl⟩, rfl⟩
  by_cases h2 : 1048576 < n
  · go_enter Try.func24, Try.ntmps24
    go_wp2
    go_ret
    exact ⟨⟨false, rfl⟩, rfl⟩
  by_cases h3 : 1048576 < n0 + n
  · go_enter Try.func24, Try.ntmps24
    go_wp2
    go_ret
    exact ⟨⟨false, rfl⟩, rfl⟩
  go_enter Try.func24, Try.ntmps24
  go_wp2
  go_loop [9, 10] (fun t i => ∃ (k : Nat) (r : Int), k ≤ n ∧ i = .int .i64 k ∧ t = .int .i64 r ∧ 0 ≤ r ∧ r ≤ 1048576) (fun _ i => n - (intOf i).toNat)
  case atStart => exact ⟨0, _, Nat.zero_le _, rfl, rfl, by omega, by omega⟩
  case round =>
    obtain ⟨k, r, hk, rfl, rfl, hr0, hr1⟩ := hrel
    by_cases hlt : k < n
    · obtain ⟨b, off, rfl, hc⟩ := hs (by omega)
      have hck := hc k hlt
      have hsk := hsz k hlt
      clear hc
      by_cases hbig : 1048576 < (ss k).size
      · go_wp2
        go_ret
        exact ⟨⟨false, rfl⟩, rfl⟩
      by_cases hbig2 : 1048576 < r + ((ss k).size : Int)
      · go_wp2
        go_ret
        exact ⟨⟨false, rfl⟩, rfl⟩
      · go_wp2
        go_round
        case rel => exact ⟨k + 1, _, by omega, by go_num, rfl, by omega, by omega⟩
        case measure => simp [intOf]; omega
    · go_wp2
      go_ret
      exact ⟨⟨true, rfl⟩, rfl⟩

/-- What closes the elements p - 1, .., 0. -/
def closes (dep : Int) (ss : Nat → ByteArray) : Nat → List Value
  | 0 => []
  | p + 1 => plainBytes dep p (ss p) ++ closes dep ss p
theorem closes_zero (dep : Int) (ss : Nat → ByteArray) : closes dep ss 0 = [] := rfl
theorem closes_succ (dep : Int) (ss : Nat → ByteArray) (p : Nat) : closes dep ss (p + 1) = plainBytes dep p (ss p) ++ closes dep ss p := rfl
theorem AllB.closes (dep : Int) (ss : Nat → ByteArray) : ∀ p, AllB (closes dep ss p)
  | 0 => fun u hu => by simp [Qxb6600821a.closes] at hu
  | p + 1 => (AllB.plain _ _ _).append (AllB.closes dep ss p)

/-- One element more is closed in 'want'. -/
theorem want_step {dep : Int} {ss : Nat → ByteArray} {q : Nat} {xs T : List Value} (h : xs ++ closes dep ss (q + 1) = T) : xs ++ plainBytes dep q (ss q) ++ closes dep ss q = T := by
  rw [← h, closes_succ, List.append_assoc]

/-- Where the second loop stands, a tag open at first: nothing is done yet; or the tag is closed and r elements are still open. -/
def Ph (dep : Int) (ss : Nat → ByteArray) (X T : List Value) (k r : Nat) (tg : Bool) (ys : List Value) : Prop := (k = 0 ∧ tg = true ∧ ys = X) ∨ (0 < k ∧ tg = false ∧ ys ++ closes dep ss r = T)

/-- THE STATE OF THE SECOND LOOP: v is what the writer has so far. -/
structure Lp (w w6 wr : World) (v0 v : Value) (m : Nat) (xs : List Value) : Prop where
  own : wr.ownsRow w.heap.size 5 1 v m xs
  gr : w6.grownBy wr v0.ownBlock
  mv : Moved w6 v0 v

theorem Lp.step {w w6 wr w7 : World} {v0 v v' : Value} {m m' : Nat} {xs xs' : List Value} (h : Lp w w6 wr v0 v m xs) (hown : w7.ownsRow w.heap.size 5 1 v' m' xs') (hg : wr.grownBy w7 v.ownBlock) (hm : Moved wr v v') : Lp w w6 w7 v0 v' m' xs' :=
  ⟨hown, h.mv.grown h.gr hg, h.mv.trans h.gr.size hm⟩

theorem Lp.cells {w w3 w6 wr : World} {B3 : Nat} {v5 v : Value} {m mw : Nat} {xs xw : List Value} {bo : Option Addr} {bc nb n B1 B2 : Nat} {f : Nat → Int} {ss : Nat → ByteArray} (hL : Lp w w6 wr (.slice bo nb bc) v m xs) (h : Wt w3 B3 w6 v5 mw xw) (hC : Cl w w3 bo bc nb n B1 B2 f ss) :
    ∀ j, j < n → wr.cell? ⟨B1, j, none⟩ = some (.string (ss j)) := fun j hj =>
  hL.gr.cell ((h.cl hC).2.1 j hj) (fun e => by have := hC.lt B1 e.symm; omega)

end Go.Proofs.Qxb6600821a
