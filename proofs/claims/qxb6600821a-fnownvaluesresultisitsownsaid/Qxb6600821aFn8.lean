/-
  FnOwnValuesResultIsItsOwn (8): the walks.
-/
import Derived.Test.Qxb6600821aFn7
namespace Go.Proofs.Qxb6600821a
open Go Go.RowKit
set_option linter.unusedVariables false
set_option linter.unusedSimpArgs false

/-- Both cells of the k-th attribute overwritten. -/
theorem own8 {w3 wr : World} {B g n c k : Nat} {ys : List Value} {G : Nat → Value} (hk : k < n) (hown : wr.ownsRow B 45 2 (.slice (some ⟨g, 0, none⟩) n c) n ys) (hy : ∀ j, k * 2 ≤ j → j < n * 2 → ys[j]? = some (G j)) (hbe : Below B w3 wr) (hB : B ≤ wr.heap.size) (u1 u2 : Value) :
    ∃ ys', ((wr.setCell ⟨g, k * 2, none⟩ u1).setCell ⟨g, k * 2 + 1, none⟩ u2).ownsRow B 45 2 (.slice (some ⟨g, 0, none⟩) n c) n ys' ∧ (∀ j, (k + 1) * 2 ≤ j → j < n * 2 → ys'[j]? = some (G j)) ∧ Below B w3 ((wr.setCell ⟨g, k * 2, none⟩ u1).setCell ⟨g, k * 2 + 1, none⟩ u2) := by
  have s := hown.stored (k * 2) u1
  have s2 := s.1.stored (k * 2 + 1) u2
  have hg := (hown.lt g rfl).1
  refine ⟨_, s2.1, fun j h1 h2 => ?_, (hbe.setCell (p := ⟨g, k * 2, none⟩) hg u1).setCell (p := ⟨g, k * 2 + 1, none⟩) hg u2⟩
  rw [List.getElem?_set, if_neg (by omega), List.getElem?_set, if_neg (by omega)]
  exact hy j (by omega) h2

set_option maxHeartbeats 2000000 in
theorem fn8_some (n0 : Option Addr) (nn nc : Nat) (ns : Nat → ByteArray) (va : Addr) (n cap : Nat) (vs : Nat → ByteArray) (w : World)
    (hnn : nn ≤ 9223372036854775807) (hn : n ≤ 9223372036854775807) (hnil : n0 = none → nn = 0 ∧ nc = 0)
    (hs : SeenS w n0 nn ns) (hv : SeenS w (some va) n vs) (hsz : ∀ j, j < nn → (ns j).size ≤ 9223372036854775807) (hvz : ∀ j, j < n → (vs j).size ≤ 9223372036854775807) :
    Calls Try.prog 8 #[.slice n0 nn nc, .slice (some va) n cap] w fun e w' => e = .returned (.bool true) ∧ Below w.heap.size w w' := by
  have hq : ∀ (w : World) (a : Option Addr) (n c : Nat), (binOp .eql 41 (.slice a n c) (.slice none 0 0)).run Try.prog w = .ok (.bool a.isNone) w := fun w a n c => Lib.run_eql_slice_nil w _ _ a n c 0 0 Try.underlying41
  go_enter Try.func8, Try.ntmps8
  go_wp2_with fail
  refine (bytes29_any n0 nn nc ns (some va) n cap vs w hnn hn hs hsz hv hvz).mono ?_
  rintro e w' ⟨⟨r, rfl⟩, rfl⟩
  cases r
  · go_wp2
    go_ret
    exact ⟨rfl, Below.refl _ _⟩
  by_cases h1 : 65536 < nn
  · go_wp2
    go_ret
    exact ⟨rfl, Below.refl _ _⟩
  by_cases h2 : 65536 < n
  · go_wp2
    go_ret
    exact ⟨rfl, Below.refl _ _⟩
  go_wp2_with fail
  refine (budget_any n0 nn nc ns 1048576 w' hnn (by omega) (by omega) hs hsz).mono ?_
  rintro e w' ⟨r, rfl, rfl, hr0, hr1, hokn⟩
  go_wp2_with fail
  refine (budget_any (some va) n cap vs r w' hn (by omega) (by omega) hv hvz).mono ?_
  rintro e w' ⟨r2, rfl, rfl, hr2, hr3, hok⟩
  by_cases hneg : r2 < 0
  · clear hok hokn
    go_wp2
    go_ret
    exact ⟨rfl, Below.refl _ _⟩
  obtain ⟨hn16, hok⟩ := hok (by omega)
  have hnz' : ∀ j, (nmOf nn ns j).size ≤ 1048576 := fun j => by
    unfold nmOf
    split
    · rename_i hj
      have := (hokn (by omega)).2 j hj
      omega
    · exact Nat.zero_le _
  have hvz' : ∀ j, j < n → (vs j).size ≤ 1048576 := fun j hj => by have := hok j hj; omega
  clear hok hsz hvz hokn
  go_wp2_with fail
  refine (cloneStrings_any n0 nn nc ns w' (by omega) hnil hs).mono ?_
  rintro e w1 ⟨no, cc, rfl, hs1, hb1⟩
  have hv1 := hv.below hb1
  clear hs hv hnil
  go_wp2_with fail
  refine (cloneStrings_some va n cap vs w1 (by omega) hv1).mono ?_
  rintro e w2 ⟨rfl, hown2, hg2⟩
  have hs2 := hs1.below (below_none hg2)
  have hv2 := cells_of_own hown2
  have hV : w1.heap.size < w2.heap.size := (hown2.lt _ rfl).2
  have hb2 := hb1.trans ((below_none hg2).mono hb1.size)
  generalize w1.heap.size = V at hv2 hV ⊢
  clear hown2 hg2 hs1 hv1 hb1
  go_wp2_with fail
  refine (build_some no nn cc ns ⟨V, 0, none⟩ n n vs w2 (by omega) (by omega) hs2 (seenS_of hv2)).mono ?_
  rintro e w3 ⟨rfl, hown3, hg3⟩
  have hs3 := hs2.below (below_none hg3)
  have hv3 : ∀ j, j < n → w3.cell? ⟨V, j, none⟩ = some (.string (vs j)) := fun j hj => hg3.cell (hv2 j hj) (by simp)
  have ha3 : ∀ j, j < n * 2 → w3.cell? ⟨w2.heap.size, j, none⟩ = some (pairG (nmOf nn ns) vs j) := fun j hj => by rw [hown3.cellAt j hj, rowOf_get _ _ _ hj]
  have hA : w2.heap.size < w3.heap.size := (hown3.lt _ rfl).2
  have hb3 := hb2.trans ((below_none hg3).mono hb2.size)
  generalize w2.heap.size = A at ha3 hA hV ⊢
  clear hown3 hg3 hs2 hv2 hb2
  go_wp2_with fail
  refine (zzown_some A n n (nmOf nn ns) vs w3 (by omega) hA ha3 hvz').mono ?_
  rintro e w4 ⟨g, c, rfl, hown4, hb4⟩
  go_wp2
  go_loopw [7] (fun i wr => ∃ (k : Nat) (ys : List Value), k ≤ n ∧ i = .int .i64 k ∧ wr.ownsRow w3.heap.size 45 2 (.slice (some ⟨g, 0, none⟩) n c) n ys ∧ (∀ j, k * 2 ≤ j → j < n * 2 → ys[j]? = some (pairG (nmOf nn ns) vs j)) ∧ Below w3.heap.size w3 wr) (fun i _ => n - (intOf i).toNat)
  case atStart => exact ⟨0, _, Nat.zero_le _, rfl, hown4, fun j _ hj => rowOf_get _ _ _ hj, hb4⟩
  case round =>
    obtain ⟨k, ys, hk, rfl, hown, hy, hbe⟩ := hrel
    clear hown4 hb4
    by_cases hlt : k < n
    · have e1 : wr.cell? ⟨g, k * 2, none⟩ = some (.string (nmOf nn ns k)) := by rw [hown.cellAt _ (by omega), hy _ (by omega) (by omega), pairG_even]
      have e2 : wr.cell? ⟨g, k * 2 + 1, none⟩ = some (.string (vs k)) := by rw [hown.cellAt _ (by omega), hy _ (by omega) (by omega), pairG_odd]
      have f1 := hown.frozenAt (k * 2)
      have f2 := hown.frozenAt (k * 2 + 1)
      have z1 := hnz' k
      have z2 := hvz' k hlt
      have HR : Hid (∀ u1 u2 : Value, ∃ ys', ((wr.setCell ⟨g, k * 2, none⟩ u1).setCell ⟨g, k * 2 + 1, none⟩ u2).ownsRow w3.heap.size 45 2 (.slice (some ⟨g, 0, none⟩) n c) n ys' ∧ (∀ j, (k + 1) * 2 ≤ j → j < n * 2 → ys'[j]? = some (pairG (nmOf nn ns) vs j)) ∧ Below w3.heap.size w3 ((wr.setCell ⟨g, k * 2, none⟩ u1).setCell ⟨g, k * 2 + 1, none⟩ u2)) := fun u1 u2 => own8 hlt hown hy hbe hbe.size u1 u2
      clear hs3 hv3 ha3 hb3 hnz' hvz' hown hy hbe
      go_wp2
      go_roundw
      case rel => exact Exists.elim (HR.out _ _) fun ys' h => ⟨k + 1, ys', by omega, by go_num, h.1, h.2.1, h.2.2⟩
      case measure => simp [intOf]; omega
    · have hO : Ov w' wr no nn ns V A A n vs := ⟨hs3.below hbe, fun j hj => by rw [hbe.cell (by simp; omega)]; exact hv3 j hj, fun j hj => by rw [hbe.cell (by simp; omega)]; exact ha3 j hj, fun j hj => by rw [hbe.cell (by simp; omega)]; exact ha3 j hj, hb3.trans (hbe.mono hb3.size)⟩
      clear hs3 hv3 ha3 hb3 hbe hown hy hnz' hvz'
      generalize wr = wz at hO ⊢
      go_wp2
      go_loopw [8] (fun i wr => ∃ k : Nat, k ≤ n ∧ i = .int .i64 k ∧ Ov w' wr no nn ns V A A n vs) (fun i _ => n - (intOf i).toNat)
      case atStart => exact ⟨0, Nat.zero_le _, rfl, hO⟩
      case round =>
        obtain ⟨k, hk, rfl, hO⟩ := hrel
        by_cases hlt : k < n
        · have e3 : wr.cell? ⟨A, k * 2, none⟩ = some (.string (nmOf nn ns k)) := by rw [hO.attrs _ (by omega), pairG_even]
          have e4 : wr.cell? ⟨A, k * 2 + 1, none⟩ = some (.string (vs k)) := by rw [hO.attrs _ (by omega), pairG_odd]
          have e5 := hO.vals k hlt
          have HN : Hid (∀ q, Calls Try.prog 28 #[.slice no nn cc, .int .i64 (k : Int)] (wr.drewN q) fun e w' => e = .returned (.string (nmOf nn ns k)) ∧ w' = wr.drewN q) := fun q => nameAt_any no nn cc ns k (wr.drewN q) hnn (by omega) hO.names
          have b0 : (0 : Int) ≤ (k : Int) := by omega
          have b1 : (k : Int) < (n : Int) := by omega
          have HO : Hid (Ov w' wr no nn ns V A A n vs) := hO
          clear hO
          go_wp2
          go_quiet ((go_at_call 28; exact Calls.quiet_of_same (HN.out _)))
          go_wp2
          go_roundw
          case rel => exact ⟨k + 1, by omega, by go_num, HO.out.drewN _⟩
          case measure => simp [intOf]; omega
        · go_wp2
          go_ret
          exact ⟨rfl, hO.be⟩

set_option maxHeartbeats 2000000 in
theorem fn8_nil (n0 : Option Addr) (nn nc : Nat) (ns : Nat → ByteArray) (w : World)
    (hnn : nn ≤ 9223372036854775807) (hnil : n0 = none → nn = 0 ∧ nc = 0)
    (hs : SeenS w n0 nn ns) (hsz : ∀ j, j < nn → (ns j).size ≤ 9223372036854775807) :
    Calls Try.prog 8 #[.slice n0 nn nc, .slice none 0 0] w fun e w' => e = .returned (.bool true) ∧ Below w.heap.size w w' := by
  have hq : ∀ (w : World) (a : Option Addr) (n c : Nat), (binOp .eql 41 (.slice a n c) (.slice none 0 0)).run Try.prog w = .ok (.bool a.isNone) w := fun w a n c => Lib.run_eql_slice_nil w _ _ a n c 0 0 Try.underlying41
  go_enter Try.func8, Try.ntmps8
  go_wp2_with fail
  refine (bytes29_any n0 nn nc ns none 0 0 (fun _ => ByteArray.empty) w hnn (by omega) hs hsz (fun h => by omega) (fun j hj => by omega)).mono ?_
  rintro e w' ⟨⟨r, rfl⟩, rfl⟩
  cases r
  · go_wp2
    go_ret
    exact ⟨rfl, Below.refl _ _⟩
  by_cases h1 : 65536 < nn
  · go_wp2
    go_ret
    exact ⟨rfl, Below.refl _ _⟩
  go_wp2_with fail
  refine (budget_any n0 nn nc ns 1048576 w' hnn (by omega) (by omega) hs hsz).mono ?_
  rintro e w' ⟨r, rfl, rfl, hr0, hr1, _⟩
  go_wp2_with fail
  refine (budget_any none 0 0 (fun _ => ByteArray.empty) r w' (by omega) (by omega) (by omega) (fun h => by omega) (fun j hj => by omega)).mono ?_
  rintro e w' ⟨r2, rfl, rfl, hr2, hr3, hok⟩
  by_cases hneg : r2 < 0
  · clear hok
    go_wp2
    go_ret
    exact ⟨rfl, Below.refl _ _⟩
  clear hok hsz
  go_wp2_with fail
  refine (cloneStrings_any n0 nn nc ns w' (by omega) hnil hs).mono ?_
  rintro e w1 ⟨no, cc, rfl, hs1, hb1⟩
  clear hs hnil hs1
  go_wp2_with fail
  refine (cloneStrings_nil w1).mono ?_
  rintro e w2 ⟨rfl, rfl⟩
  go_wp2_with fail
  refine (build_nil no nn cc w2).mono ?_
  rintro e w3 ⟨rfl, rfl⟩
  go_wp2_with fail
  refine (zzown_nil w3).mono ?_
  rintro e w4 ⟨rfl, hb4⟩
  have HB : Hid (Below w'.heap.size w' w4) := hb1.trans (hb4.mono hb1.size)
  clear hb1 hb4
  go_wp2
  refine wp_loop_rounds 1 ?_
  rw [rounds_succ]
  go_wp2
  refine wp_loop_rounds 1 ?_
  rw [rounds_succ]
  go_wp2
  go_ret
  exact ⟨rfl, HB.out⟩

end Go.Proofs.Qxb6600821a
