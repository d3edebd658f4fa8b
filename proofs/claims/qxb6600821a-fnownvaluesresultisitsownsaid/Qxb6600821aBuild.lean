/-
  b1BuildAttrs (26).
-/
import Derived.Test.Qxb6600821aOwnReads
import Derived.Deep.RegionWith
import Derived.Deep.RegionHeld3
import Derived.Deep.DrawnRows
namespace Go.Proofs.Qxb6600821a
open Go Go.RowKit
set_option linter.unusedVariables false
set_option linter.unusedSimpArgs false
attribute [local go_sem ↓] Go.wp_at_zero Go.wp_at_succ

theorem Try.info45 : (Try.prog.info? 45).map (fun i => (i.zero, i.size, i.bytes)) = some (some (.agg #[.string ByteArray.empty, .string ByteArray.empty]), 2, 32) := by kernel_rfl

/-- The cells of a list of attributes. -/
def pairG (nm vs : Nat → ByteArray) (j : Nat) : Value := .string (if j % 2 = 0 then nm (j / 2) else vs (j / 2))
theorem pairG_even (nm vs : Nat → ByteArray) (k : Nat) : pairG nm vs (k * 2) = .string (nm k) := by
  unfold pairG
  rw [if_pos (by omega), show k * 2 / 2 = k by omega]
theorem pairG_odd (nm vs : Nat → ByteArray) (k : Nat) : pairG nm vs (k * 2 + 1) = .string (vs k) := by
  unfold pairG
  rw [if_neg (by omega), show (k * 2 + 1) / 2 = k by omega]

theorem build_rel {w wr : World} {n k : Nat} {ys : List Value} {nm vs : Nat → ByteArray} (hk : k < n)
    (hown : wr.ownsRow w.heap.size 45 2 (.slice (some ⟨w.heap.size, 0, none⟩) n n) n ys) (hy : ∀ j, j < k * 2 → ys[j]? = some (pairG nm vs j)) (hg : w.grownBy wr none) :
    let W := (wr.setCell ⟨w.heap.size, k * 2, none⟩ (.string (nm k))).setCell ⟨w.heap.size, k * 2 + 1, none⟩ (.string (vs k))
    ∃ ys', W.ownsRow w.heap.size 45 2 (.slice (some ⟨w.heap.size, 0, none⟩) n n) n ys' ∧ (∀ j, j < (k + 1) * 2 → ys'[j]? = some (pairG nm vs j)) ∧ w.grownBy W none := by
  have s := hown.stored (k * 2) (.string (nm k))
  have s2 := s.1.stored (k * 2 + 1) (.string (vs k))
  have hl := hown.1
  have t1 := set_step (g := pairG nm vs) (ys := ys) (k := k * 2) (by omega) hy
  rw [pairG_even] at t1
  have t2 := set_step (g := pairG nm vs) (ys := ys.set (k * 2) (.string (nm k))) (k := k * 2 + 1) (by simp; omega) t1
  rw [pairG_odd] at t2
  refine ⟨_, s2.1, fun j hj => t2 j (by omega), ?_⟩
  exact grownBy_trans (grownBy_trans hg s.2 (.inr fun m hm => by cases hm; exact Nat.le_refl _)) s2.2 (.inr fun m hm => by cases hm; exact Nat.le_refl _)

set_option maxHeartbeats 1000000 in
theorem build_some (no : Option Addr) (nn nc : Nat) (ns : Nat → ByteArray) (a : Addr) (n cap : Nat) (vs : Nat → ByteArray) (w : World) (hn : n ≤ 65536) (hnn : nn ≤ 65536) (hs : SeenS w no nn ns) (hv : SeenS w (some a) n vs) :
    Calls Try.prog 26 #[.slice no nn nc, .slice (some a) n cap] w fun e w' => e = .returned (.slice (some ⟨w.heap.size, 0, none⟩) n n) ∧ w'.ownsRow w.heap.size 45 2 (.slice (some ⟨w.heap.size, 0, none⟩) n n) n (rowOf (pairG (nmOf nn ns) vs) (n * 2)) ∧ w.grownBy w' none := by
  obtain ⟨i0, hi, hz0, hz1, hz2⟩ := info_parts Try.info45
  have hq : ∀ (w : World) (a : Option Addr) (n c : Nat), (binOp .eql 30 (.slice a n c) (.slice none 0 0)).run Try.prog w = .ok (.bool a.isNone) w := fun w a n c => Lib.run_eql_slice_nil w _ _ a n c 0 0 Try.underlying30
  go_enter Try.func26, Try.ntmps26
  go_wp2_with (at_make; refine wpList_make_full _ rfl _ _ 41 rfl w.heap.size 45 i0 (.agg #[.string ByteArray.empty, .string ByteArray.empty]) 2 Try.underlying41 hi hz0 hz1 _ _ _ _ n rfl rfl rfl rfl (by rw [hz2]; omega) (by unfold maxLen; omega) (Nat.le_refl _) ?_)
  intro w1 hown1 hgrow1
  go_wp2
  go_loopw [6] (fun i wr => ∃ (k : Nat) (ys : List Value), k ≤ n ∧ i = .int .i64 k ∧ wr.ownsRow w.heap.size 45 2 (.slice (some ⟨w.heap.size, 0, none⟩) n n) n ys ∧ (∀ j, j < k * 2 → ys[j]? = some (pairG (nmOf nn ns) vs j)) ∧ w.grownBy wr none) (fun i _ => n - (intOf i).toNat)
  case atStart => exact ⟨0, _, Nat.zero_le _, rfl, hown1, fun j hj => by omega, hgrow1⟩
  case round =>
    obtain ⟨k, ys, hk, rfl, hown, hy, hgr⟩ := hrel
    clear hown1 hgrow1
    by_cases hlt : k < n
    · obtain ⟨b, off, hab, hc⟩ := hv (by omega)
      obtain rfl := Option.some.inj hab
      clear hab
      have hck : wr.cell? ⟨b, off + k, none⟩ = some (.string (vs k)) := hgr.cell (hc k hlt) (by simp)
      have hS : SeenS wr.drew no nn ns := fun h0 => by
        obtain ⟨b', off', e, hc'⟩ := hs h0
        exact ⟨b', off', e, fun j hj => hgr.cell (hc' j hj) (by simp)⟩
      have HN : Hid (Calls Try.prog 28 #[.slice no nn nc, .int .i64 (k : Int)] wr.drew fun e w' => e = .returned (.string (nmOf nn ns k)) ∧ w' = wr.drew) := nameAt_any no nn nc ns k wr.drew (by omega) (by omega) hS
      have f0 := hown.frozenAt (k * 2)
      have f1 := hown.frozenAt (k * 2 + 1)
      have a0 : (wr.cell? ⟨w.heap.size, k * 2, none⟩).isSome = true := by rw [hown.cellAt _ (by omega), List.getElem?_eq_getElem (by have := hown.1; omega)]; rfl
      have a1 : (wr.cell? ⟨w.heap.size, k * 2 + 1, none⟩).isSome = true := by rw [hown.cellAt _ (by omega), List.getElem?_eq_getElem (by have := hown.1; omega)]; rfl
      obtain ⟨o0, ho0⟩ := Option.isSome_iff_exists.1 a0
      obtain ⟨o1, ho1⟩ := Option.isSome_iff_exists.1 a1
      have b0 : (0 : Int) ≤ (k : Int) := by omega
      have b1 : (k : Int) < (n : Int) := by omega
      have R := build_rel hlt hown hy hgr
      have HR : Hid _ := R
      clear R a0 a1 hc hown hy hgr hS
      go_wp2
      go_region_with (go_at_call 28; refine HN.out.mono ?_; rintro e w' ⟨rfl, rfl⟩)
      all_goals
        go_wp2
        go_roundw
        case rel =>
          obtain ⟨ys', r1, r2, r3⟩ := HR.out
          exact ⟨k + 1, ys', by omega, by go_num, r1, r2, ⟨r3.os, r3.tape, r3.output, r3.size, r3.block⟩⟩
        case measure => simp [intOf]; omega
    · have HR : Hid (ys = rowOf (pairG (nmOf nn ns) vs) (n * 2)) := rowOf_eq (by have := hown.1; omega) (fun j hj => hy j (by omega))
      clear hy
      go_wp2
      go_ret
      exact ⟨rfl, by rw [← HR.out]; exact hown, hgr⟩

theorem build_nil (no : Option Addr) (nn nc : Nat) (w : World) : Calls Try.prog 26 #[.slice no nn nc, .slice none 0 0] w fun e w' => e = .returned (.slice none 0 0) ∧ w' = w := by
  have hq : ∀ (w : World) (a : Option Addr) (n c : Nat), (binOp .eql 30 (.slice a n c) (.slice none 0 0)).run Try.prog w = .ok (.bool a.isNone) w := fun w a n c => Lib.run_eql_slice_nil w _ _ a n c 0 0 Try.underlying30
  go_enter Try.func26, Try.ntmps26
  go_wp2
  go_ret
  exact ⟨rfl, rfl⟩

end Go.Proofs.Qxb6600821a
