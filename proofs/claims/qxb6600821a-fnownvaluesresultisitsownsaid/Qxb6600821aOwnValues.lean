/-
  ownValues (34) and ZZownValues (27).
-/
import Derived.Test.Qxb6600821aOwnParts
namespace Go.Proofs.Qxb6600821a
open Go Go.RowKit
set_option linter.unusedVariables false
set_option linter.unusedSimpArgs false
attribute [local go_sem ↓] Go.wp_at_zero Go.wp_at_succ

set_option maxHeartbeats 2000000 in
theorem ownValues_some (A n ac : Nat) (nm vs : Nat → ByteArray) (w : World) (hn : n ≤ 65536) (hA : A < w.heap.size) (hc : ∀ j, j < n * 2 → w.cell? ⟨A, j, none⟩ = some (pairG nm vs j)) (hsz : ∀ j, j < n → (vs j).size ≤ 1048576) :
    Calls Try.prog 34 #[.slice (some ⟨A, 0, none⟩) n ac] w fun e w' => ∃ g c, e = .returned (.slice (some ⟨g, 0, none⟩) n c) ∧ w'.ownsRow w.heap.size 45 2 (.slice (some ⟨g, 0, none⟩) n c) n (rowOf (pairG nm vs) (n * 2)) ∧ Below w.heap.size w w' := by
  have HT : Hid (∀ k, k ≤ n → tot vs k ≤ k * 1048576) := tot_le vs n hsz
  go_enter Try.func34, Try.ntmps34
  go_wp2
  go_loopw [3, 14] (fun t i wr => ∃ k : Nat, k ≤ n ∧ i = .int .i64 k ∧ t = .int .i64 (tot vs k : Nat) ∧ Below w.heap.size w wr) (fun _ i _ => n - (intOf i).toNat)
  case atStart => exact ⟨0, Nat.zero_le _, rfl, rfl, Below.refl _ _⟩
  case round =>
    obtain ⟨k, hk, rfl, rfl, hbe⟩ := hrel
    have htk := HT.out k hk
    by_cases hlt : k < n
    · have c0 : wr.cell? ⟨A, k * 2, none⟩ = some (.string (nm k)) := by rw [hbe.cell (by exact hA), hc _ (by omega), pairG_even]
      have c1 : wr.cell? ⟨A, k * 2 + 1, none⟩ = some (.string (vs k)) := by rw [hbe.cell (by exact hA), hc _ (by omega), pairG_odd]
      have hs := hsz k hlt
      have hsize := hbe.size
      have HB : Hid _ := hbe
      clear hbe hc hsz
      go_wp2
      go_roundw
      case rel => exact ⟨k + 1, by omega, by go_num, by rw [tot_succ]; go_num, HB.out.alloc (by omega) _⟩
      case measure => simp [intOf]; omega
    · have hkn : n = k := by omega
      subst hkn
      have htb : tot vs n ≤ 281474976710656 := by omega
      have HB : Hid (Below w.heap.size w wr) := hbe
      have hwr := hbe.size
      clear hbe
      go_wp2_with fail
      refine (Try.Builder_Grow_fresh wr.heap.size wr.heap.size (tot vs n) (wr.alloc (.cells #[.pointer none, .slice none 0 0] 62)) (Nat.le_refl _) (heap_alloc_new wr _) (by simp) htb).mono ?_
      rintro e w2 ⟨rfl, hbl, hbe2⟩
      have HB2 : Hid (Below w.heap.size w w2) := (HB.out.alloc (by omega) _).trans (hbe2.mono (by omega))
      have hsz2 : wr.heap.size < w2.heap.size := by have := hbe2.size; simp at this; omega
      generalize wr.heap.size = B at hbl hbe2 hsz2 hwr ⊢
      clear hbe2 HB
      go_wp2
      go_loopw [28] (fun i wr => ∃ k : Nat, k ≤ n ∧ i = .int .i64 k ∧ Lib.BuilderAt 62 5 B B (.pointer (some ⟨B, 0, none⟩)) (Lib.byteCells (catB vs k)) wr ∧ Below w.heap.size w wr ∧ B < wr.heap.size) (fun i _ => n - (intOf i).toNat)
      case atStart => exact ⟨0, Nat.zero_le _, rfl, hbl, HB2.out, hsz2⟩
      case round =>
        obtain ⟨k, hk, rfl, hbl, hbe, hbs⟩ := hrel
        clear HB2
        have htk := HT.out k hk
        by_cases hlt : k < n
        · have c0 : wr.cell? ⟨A, k * 2, none⟩ = some (.string (nm k)) := by rw [hbe.cell (by exact hA), hc _ (by omega), pairG_even]
          have c1 : wr.cell? ⟨A, k * 2 + 1, none⟩ = some (.string (vs k)) := by rw [hbe.cell (by exact hA), hc _ (by omega), pairG_odd]
          have hs := hsz k hlt
          have hsize := hbe.size
          have HB : Hid (Below w.heap.size w wr) := hbe
          have HL : Hid (∀ o, Lib.BuilderAt 62 5 B B (.pointer (some ⟨B, 0, none⟩)) (Lib.byteCells (catB vs k)) (wr.alloc o)) := fun o => builderAt_alloc hbl o
          clear hbe hc hsz hbl
          go_wp2_with fail
          refine (writeString_used B B _ (vs k) _ (HL.out _) (by rw [Lib.byteCells_length, catB_length]; omega) (by simp; omega)).mono ?_
          rintro e w3 ⟨rfl, hbl3, hbe3⟩
          rw [bytes_cat] at hbl3
          have HL3 : Hid _ := hbl3
          have HB3 : Hid (Below w.heap.size w w3) := (HB.out.alloc (by omega) _).trans (hbe3.mono (by omega))
          have hs3 : B < w3.heap.size := by have := hbe3.size; simp at this; omega
          clear hbl3 hbe3 HL HB
          go_wp2
          go_roundw
          case rel => exact ⟨k + 1, by omega, by go_num, HL3.out, HB3.out, hs3⟩
          case measure => simp [intOf]; omega
        · have hkn : n = k := by omega
          subst hkn
          have HB : Hid (Below w.heap.size w wr) := hbe
          clear hbe
          go_wp2_with fail
          refine (Try.Builder_String_any B B (catB vs n) wr (.inr hbl) (by omega)).mono ?_
          rintro e w4 ⟨rfl, hbe4⟩
          have hbe5 : Below w.heap.size w w4 := HB.out.trans (hbe4.mono (by omega))
          clear hbe4 hbl HB
          have hx : ∀ j u, (rowOf (pairG nm vs) (n * 2))[j]? = some u → w4.cell? ⟨A, j, none⟩ = some u := fun j u hu => by
            have hj : j < n * 2 := by have := (List.getElem?_eq_some_iff.1 hu).1; rwa [rowOf_length] at this
            rw [hbe5.cell (by exact hA), hc j hj, ← rowOf_get _ _ _ hj]
            exact hu
          go_wp2_with fail
          refine (cloneAttrs_some A n ac _ w4 hn (rowOf_length _ _) hx (pair_one _ _ _)).mono ?_
          rintro e w5 ⟨g, c, rfl, hown5, hg5⟩
          have hbe6 : Below w.heap.size w w5 := hbe5.trans (below_of_grownBy hg5 hbe5.size (fun k hk => by cases hk))
          have hown6 := ownsRow_mono hown5 hbe5.size
          clear hx hbe5 hown5 hg5
          go_wp2
          go_loopw [9, 41] (fun t i wr => ∃ (k r : Nat) (S : ByteArray), k + r = n ∧ i = .int .i64 k ∧ t = .string S ∧ IsRest vs k r S ∧ wr.ownsRow w.heap.size 45 2 (.slice (some ⟨g, 0, none⟩) n c) n (rowOf (pairG nm vs) (n * 2)) ∧ Below w.heap.size w wr) (fun _ i _ => n - (intOf i).toNat)
          case atStart => exact ⟨0, n, _, by omega, rfl, rfl, by rw [IsRest, rest_zero], hown6, hbe6⟩
          case round =>
            obtain ⟨k, r, S, hkr, rfl, rfl, hR, hown, hbe⟩ := hrel
            clear hown6 hbe6
            by_cases hlt : k < n
            · obtain ⟨r, rfl⟩ : ∃ q, r = q + 1 := ⟨r - 1, by omega⟩
              obtain ⟨S', hR', E1, E2, E3⟩ := hR.step
              have hck : wr.cell? ⟨g, k * 2 + 1, none⟩ = some (.string (vs k)) := by rw [hown.cellAt _ (by omega), rowOf_get _ _ _ (by omega), pairG_odd]
              have hfz := hown.frozenAt (k * 2 + 1)
              have b0 : (0 : Int) ≤ (k : Int) := by omega
              have b1 : (k : Int) < (n : Int) := by omega
              have b2 : (0 : Int) ≤ ((vs k).size : Int) := by omega
              have b3 : ((vs k).size : Int) ≤ (S.size : Int) := by omega
              have hs := hsz k hlt
              have hst := hown.stored (k * 2 + 1) (.string (vs k))
              rw [set_same (by rw [rowOf_get _ _ _ (by omega), pairG_odd])] at hst
              have HO : Hid _ := hst.1
              have HB : Hid (Below w.heap.size w (wr.setCell ⟨g, k * 2 + 1, none⟩ (.string (vs k)))) := hbe.grown hst.2 hbe.size (fun k hk => (hown.lt k hk).1)
              have HKR : Hid (k + (r + 1) = n) := hkr
              have HR : Hid (IsRest vs (k + 1) r S') := hR'
              clear hst hown hbe hkr hR hR' hc hsz
              go_wp2
              go_region
              all_goals
                go_wp2
                go_roundw
                case rel => exact ⟨k + 1, r, S', by have := HKR.out; omega, by go_num, rfl, HR.out, HO.out, ⟨HB.out.os, HB.out.tape, HB.out.output, HB.out.size, HB.out.block⟩⟩
                case measure => simp [intOf]; omega
            · go_wp2
              go_ret
              exact ⟨g, c, rfl, hown, hbe⟩

theorem ownValues_nil (w : World) : Calls Try.prog 34 #[.slice none 0 0] w fun e w' => e = .returned (.slice none 0 0) ∧ Below w.heap.size w w' := by
  go_enter Try.func34, Try.ntmps34
  go_wp2
  refine wp_loop_rounds 1 ?_
  rw [rounds_succ]
  go_wp2_with fail
  refine (Try.Builder_Grow_fresh w.heap.size w.heap.size 0 (w.alloc (.cells #[.pointer none, .slice none 0 0] 62)) (Nat.le_refl _) (heap_alloc_new w _) (by simp) (by omega)).mono ?_
  rintro e w2 ⟨rfl, hbl, hbe2⟩
  have HB : Hid (Below w.heap.size w w2) := ((Below.refl _ _).alloc (Nat.le_refl _) _).trans hbe2
  have hs2 : w.heap.size ≤ w2.heap.size := HB.out.size
  clear hbe2
  go_wp2
  refine wp_loop_rounds 1 ?_
  rw [rounds_succ]
  go_wp2_with fail
  refine (Try.Builder_String_any w.heap.size w.heap.size [] w2 (.inr hbl) hs2).mono ?_
  rintro e w3 ⟨rfl, hbe3⟩
  have HB3 : Hid (Below w.heap.size w w3) := HB.out.trans hbe3
  clear hbl hbe3 HB
  go_wp2_with fail
  refine (cloneAttrs_nil w3).mono ?_
  rintro e w4 ⟨rfl, rfl⟩
  go_wp2
  refine wp_loop_rounds 1 ?_
  rw [rounds_succ]
  go_wp2
  go_ret
  exact ⟨rfl, HB3.out⟩

/-- ZZownValues (27) is ownValues. -/
theorem zzown_nil (w : World) : Calls Try.prog 27 #[.slice none 0 0] w fun e w' => e = .returned (.slice none 0 0) ∧ Below w.heap.size w w' := by
  go_enter Try.func27, Try.ntmps27
  go_wp2_with fail
  refine (ownValues_nil w).mono ?_
  rintro e w' ⟨rfl, hb⟩
  have HB : Hid _ := hb
  clear hb
  go_wp2
  go_ret
  exact ⟨rfl, HB.out⟩
theorem zzown_some (A n ac : Nat) (nm vs : Nat → ByteArray) (w : World) (hn : n ≤ 65536) (hA : A < w.heap.size) (hc : ∀ j, j < n * 2 → w.cell? ⟨A, j, none⟩ = some (pairG nm vs j)) (hsz : ∀ j, j < n → (vs j).size ≤ 1048576) :
    Calls Try.prog 27 #[.slice (some ⟨A, 0, none⟩) n ac] w fun e w' => ∃ g c, e = .returned (.slice (some ⟨g, 0, none⟩) n c) ∧ w'.ownsRow w.heap.size 45 2 (.slice (some ⟨g, 0, none⟩) n c) n (rowOf (pairG nm vs) (n * 2)) ∧ Below w.heap.size w w' := by
  go_enter Try.func27, Try.ntmps27
  go_wp2_with fail
  refine (ownValues_some A n ac nm vs w hn hA hc hsz).mono ?_
  rintro e w' ⟨g, c, rfl, h1, h2⟩
  have H1 : Hid _ := h1
  have H2 : Hid _ := h2
  clear h1 h2 hc hsz
  go_wp2
  go_ret
  exact ⟨g, c, rfl, H1.out, H2.out⟩

end Go.Proofs.Qxb6600821a
