/-
  FnOwnValuesCopiesEveryAttribute (7): the walks.
-/
import Derived.Test.Qxb6600821aOwnValues
namespace Go.Proofs.Qxb6600821a
open Go Go.RowKit
set_option linter.unusedVariables false
set_option linter.unusedSimpArgs false

theorem SeenS.below {w w' : World} {ao : Option Addr} {n : Nat} {ss : Nat → ByteArray} (h : SeenS w ao n ss) (hb : Below w.heap.size w w') : SeenS w' ao n ss := fun h0 => by
  obtain ⟨b, off, e, hc⟩ := h h0
  exact ⟨b, off, e, fun j hj => by rw [hb.cell (World.block_lt_of_cell? w _ (hc j hj))]; exact hc j hj⟩
theorem below_none {w w' : World} (h : w.grownBy w' none) : Below w.heap.size w w' := below_of_grownBy h (Nat.le_refl _) (fun k hk => by cases hk)

theorem cloneStrings_any (ao : Option Addr) (n cap : Nat) (ss : Nat → ByteArray) (w : World) (hn : n ≤ 65536) (hnil : ao = none → n = 0 ∧ cap = 0) (hs : SeenS w ao n ss) :
    Calls Try.prog 20 #[.slice ao n cap] w fun e w' => ∃ co cc, e = .returned (.slice co n cc) ∧ SeenS w' co n ss ∧ Below w.heap.size w w' := by
  cases ao with
  | none =>
    obtain ⟨rfl, rfl⟩ := hnil rfl
    refine (cloneStrings_nil w).mono ?_
    rintro e w' ⟨rfl, rfl⟩
    exact ⟨none, 0, rfl, (fun h => by omega), Below.refl _ _⟩
  | some a =>
    refine (cloneStrings_some a n cap ss w (by omega) hs).mono ?_
    rintro e w' ⟨rfl, h1, h2⟩
    exact ⟨_, _, rfl, seenS_of (cells_of_own h1), below_none h2⟩

/-- The state of the law behind its calls: names, values, attrs, out. -/
structure Ov (w W : World) (no : Option Addr) (nn : Nat) (ns : Nat → ByteArray) (V A g n : Nat) (vs : Nat → ByteArray) : Prop where
  names : SeenS W no nn ns
  vals : ∀ j, j < n → W.cell? ⟨V, j, none⟩ = some (.string (vs j))
  attrs : ∀ j, j < n * 2 → W.cell? ⟨A, j, none⟩ = some (pairG (nmOf nn ns) vs j)
  out : ∀ j, j < n * 2 → W.cell? ⟨g, j, none⟩ = some (pairG (nmOf nn ns) vs j)
  be : Below w.heap.size w W

theorem Ov.drewN {w W : World} {no : Option Addr} {nn : Nat} {ns : Nat → ByteArray} {V A g n : Nat} {vs : Nat → ByteArray} (h : Ov w W no nn ns V A g n vs) (q : Nat) : Ov w (W.drewN q) no nn ns V A g n vs :=
  ⟨h.names, h.vals, h.attrs, h.out, ⟨h.be.os, h.be.tape, h.be.output, h.be.size, h.be.block⟩⟩

set_option maxHeartbeats 2000000 in
theorem fn7_some (n0 : Option Addr) (nn nc : Nat) (ns : Nat → ByteArray) (va : Addr) (n cap : Nat) (vs : Nat → ByteArray) (w : World)
    (hnn : nn ≤ 9223372036854775807) (hn : n ≤ 9223372036854775807) (hnil : n0 = none → nn = 0 ∧ nc = 0)
    (hs : SeenS w n0 nn ns) (hv : SeenS w (some va) n vs) (hsz : ∀ j, j < nn → (ns j).size ≤ 9223372036854775807) (hvz : ∀ j, j < n → (vs j).size ≤ 9223372036854775807) :
    Calls Try.prog 7 #[.slice n0 nn nc, .slice (some va) n cap] w fun e w' => e = .returned (.bool true) ∧ Below w.heap.size w w' := by
  have hq : ∀ (w : World) (a : Option Addr) (n c : Nat), (binOp .eql 41 (.slice a n c) (.slice none 0 0)).run Try.prog w = .ok (.bool a.isNone) w := fun w a n c => Lib.run_eql_slice_nil w _ _ a n c 0 0 Try.underlying41
  go_enter Try.func7, Try.ntmps7
  go_wp2_with fail
  refine (bytes25_any n0 nn nc ns (some va) n cap vs w hnn hn hs hsz hv hvz).mono ?_
  rintro e w' ⟨⟨r, rfl⟩, rfl⟩
  cases r
  · go_wp2
    go_ret
    exact ⟨rfl, Below.refl _ _⟩
  by_cases h1 : 65536 < nn
  · go_wp2
    go_ret
    exact ⟨rfl, Below.refl _ _⟩
  by_cases h2 : 65536 < n
  · go_wp2
    go_ret
    exact ⟨rfl, Below.refl _ _⟩
  go_wp2_with fail
  refine (budget_any n0 nn nc ns 1048576 w' hnn (by omega) (by omega) hs hsz).mono ?_
  rintro e w' ⟨r, rfl, rfl, hr0, hr1, _⟩
  go_wp2_with fail
  refine (budget_any (some va) n cap vs r w' hn (by omega) (by omega) hv hvz).mono ?_
  rintro e w' ⟨r2, rfl, rfl, hr2, hr3, hok⟩
  by_cases hneg : r2 < 0
  · clear hok
    go_wp2
    go_ret
    exact ⟨rfl, Below.refl _ _⟩
  obtain ⟨_, hok⟩ := hok (by omega)
  have hvz' : ∀ j, j < n → (vs j).size ≤ 1048576 := fun j hj => by have := hok j hj; omega
  clear hok hsz hvz
  go_wp2_with fail
  refine (cloneStrings_any n0 nn nc ns w' (by omega) hnil hs).mono ?_
  rintro e w1 ⟨no, cc, rfl, hs1, hb1⟩
  have hv1 := hv.below hb1
  clear hs hv hnil
  go_wp2_with fail
  refine (cloneStrings_some va n cap vs w1 (by omega) hv1).mono ?_
  rintro e w2 ⟨rfl, hown2, hg2⟩
  have hs2 := hs1.below (below_none hg2)
  have hv2 := cells_of_own hown2
  have hV : w1.heap.size < w2.heap.size := (hown2.lt _ rfl).2
  have hb2 := hb1.trans ((below_none hg2).mono hb1.size)
  generalize w1.heap.size = V at hv2 hV ⊢
  clear hown2 hg2 hs1 hv1 hb1
  go_wp2_with fail
  refine (build_some no nn cc ns ⟨V, 0, none⟩ n n vs w2 (by omega) (by omega) hs2 (seenS_of hv2)).mono ?_
  rintro e w3 ⟨rfl, hown3, hg3⟩
  have hs3 := hs2.below (below_none hg3)
  have hv3 : ∀ j, j < n → w3.cell? ⟨V, j, none⟩ = some (.string (vs j)) := fun j hj => hg3.cell (hv2 j hj) (by simp)
  have ha3 : ∀ j, j < n * 2 → w3.cell? ⟨w2.heap.size, j, none⟩ = some (pairG (nmOf nn ns) vs j) := fun j hj => by rw [hown3.cellAt j hj, rowOf_get _ _ _ hj]
  have hA : w2.heap.size < w3.heap.size := (hown3.lt _ rfl).2
  have hb3 := hb2.trans ((below_none hg3).mono hb2.size)
  generalize w2.heap.size = A at ha3 hA hV ⊢
  clear hown3 hg3 hs2 hv2 hb2
  go_wp2_with fail
  refine (zzown_some A n n (nmOf nn ns) vs w3 (by omega) hA ha3 hvz').mono ?_
  rintro e w4 ⟨g, c, rfl, hown4, hb4⟩
  have hO : Ov w' w4 no nn ns V A g n vs := ⟨hs3.below hb4, fun j hj => by rw [hb4.cell (by simp; omega)]; exact hv3 j hj, fun j hj => by rw [hb4.cell (by simp; omega)]; exact ha3 j hj, fun j hj => by rw [hown4.cellAt j hj, rowOf_get _ _ _ hj], hb3.trans (hb4.mono hb3.size)⟩
  clear hs3 hv3 ha3 hb3 hb4 hown4 hvz'
  go_wp2
  go_loopw [7] (fun i wr => ∃ k : Nat, k ≤ n ∧ i = .int .i64 k ∧ Ov w' wr no nn ns V A g n vs) (fun i _ => n - (intOf i).toNat)
  case atStart => exact ⟨0, Nat.zero_le _, rfl, hO⟩
  case round =>
    obtain ⟨k, hk, rfl, hO⟩ := hrel
    by_cases hlt : k < n
    · have e1 : wr.cell? ⟨g, k * 2, none⟩ = some (.string (nmOf nn ns k)) := by rw [hO.out _ (by omega), pairG_even]
      have e2 : wr.cell? ⟨g, k * 2 + 1, none⟩ = some (.string (vs k)) := by rw [hO.out _ (by omega), pairG_odd]
      have e3 : wr.cell? ⟨A, k * 2, none⟩ = some (.string (nmOf nn ns k)) := by rw [hO.attrs _ (by omega), pairG_even]
      have e4 : wr.cell? ⟨A, k * 2 + 1, none⟩ = some (.string (vs k)) := by rw [hO.attrs _ (by omega), pairG_odd]
      have e5 := hO.vals k hlt
      have HN : Hid (∀ q, Calls Try.prog 28 #[.slice no nn cc, .int .i64 (k : Int)] (wr.drewN q) fun e w' => e = .returned (.string (nmOf nn ns k)) ∧ w' = wr.drewN q) := fun q => nameAt_any no nn cc ns k (wr.drewN q) hnn (by omega) hO.names
      have b0 : (0 : Int) ≤ (k : Int) := by omega
      have b1 : (k : Int) < (n : Int) := by omega
      have HO : Hid (Ov w' wr no nn ns V A g n vs) := hO
      clear hO
      go_wp2
      go_quiet ((go_at_call 28; exact Calls.quiet_of_same (HN.out _)))
      go_wp2
      have hO2 := HO.out.drewN nq
      clear HO HN e1 e2 e3 e4 e5
      generalize wr.drewN nq = W2 at hO2 ⊢
      have e3 : W2.cell? ⟨A, k * 2, none⟩ = some (.string (nmOf nn ns k)) := by rw [hO2.attrs _ (by omega), pairG_even]
      have e4 : W2.cell? ⟨A, k * 2 + 1, none⟩ = some (.string (vs k)) := by rw [hO2.attrs _ (by omega), pairG_odd]
      have e5 := hO2.vals k hlt
      have HN : Hid (∀ q, Calls Try.prog 28 #[.slice no nn cc, .int .i64 (k : Int)] (W2.drewN q) fun e w' => e = .returned (.string (nmOf nn ns k)) ∧ w' = W2.drewN q) := fun q => nameAt_any no nn cc ns k (W2.drewN q) hnn (by omega) hO2.names
      have HO2 : Hid (Ov w' W2 no nn ns V A g n vs) := hO2
      clear hO2
      go_quiet ((go_at_call 28; exact Calls.quiet_of_same (HN.out _)))
      go_wp2
      go_roundw
      case rel => exact ⟨k + 1, by omega, by go_num, HO2.out.drewN _⟩
      case measure => simp [intOf]; omega
    · go_wp2
      go_ret
      exact ⟨rfl, hO.be⟩

set_option maxHeartbeats 2000000 in
theorem fn7_nil (n0 : Option Addr) (nn nc : Nat) (ns : Nat → ByteArray) (w : World)
    (hnn : nn ≤ 9223372036854775807) (hnil : n0 = none → nn = 0 ∧ nc = 0)
    (hs : SeenS w n0 nn ns) (hsz : ∀ j, j < nn → (ns j).size ≤ 9223372036854775807) :
    Calls Try.prog 7 #[.slice n0 nn nc, .slice none 0 0] w fun e w' => e = .returned (.bool true) ∧ Below w.heap.size w w' := by
  have hq : ∀ (w : World) (a : Option Addr) (n c : Nat), (binOp .eql 41 (.slice a n c) (.slice none 0 0)).run Try.prog w = .ok (.bool a.isNone) w := fun w a n c => Lib.run_eql_slice_nil w _ _ a n c 0 0 Try.underlying41
  go_enter Try.func7, Try.ntmps7
  go_wp2_with fail
  refine (bytes25_any n0 nn nc ns none 0 0 (fun _ => ByteArray.empty) w hnn (by omega) hs hsz (fun h => by omega) (fun j hj => by omega)).mono ?_
  rintro e w' ⟨⟨r, rfl⟩, rfl⟩
  cases r
  · go_wp2
    go_ret
    exact ⟨rfl, Below.refl _ _⟩
  by_cases h1 : 65536 < nn
  · go_wp2
    go_ret
    exact ⟨rfl, Below.refl _ _⟩
  go_wp2_with fail
  refine (budget_any n0 nn nc ns 1048576 w' hnn (by omega) (by omega) hs hsz).mono ?_
  rintro e w' ⟨r, rfl, rfl, hr0, hr1, _⟩
  go_wp2_with fail
  refine (budget_any none 0 0 (fun _ => ByteArray.empty) r w' (by omega) (by omega) (by omega) (fun h => by omega) (fun j hj => by omega)).mono ?_
  rintro e w' ⟨r2, rfl, rfl, hr2, hr3, hok⟩
  by_cases hneg : r2 < 0
  · clear hok
    go_wp2
    go_ret
    exact ⟨rfl, Below.refl _ _⟩
  clear hok hsz
  go_wp2_with fail
  refine (cloneStrings_any n0 nn nc ns w' (by omega) hnil hs).mono ?_
  rintro e w1 ⟨no, cc, rfl, hs1, hb1⟩
  clear hs hnil hs1
  go_wp2_with fail
  refine (cloneStrings_nil w1).mono ?_
  rintro e w2 ⟨rfl, rfl⟩
  go_wp2_with fail
  refine (build_nil no nn cc w2).mono ?_
  rintro e w3 ⟨rfl, rfl⟩
  go_wp2_with fail
  refine (zzown_nil w3).mono ?_
  rintro e w4 ⟨rfl, hb4⟩
  have HB : Hid (Below w'.heap.size w' w4) := hb1.trans (hb4.mono hb1.size)
  clear hb1 hb4
  go_wp2
  refine wp_loop_rounds 1 ?_
  rw [rounds_succ]
  go_wp2
  go_ret
  exact ⟨rfl, HB.out⟩

end Go.Proofs.Qxb6600821a
