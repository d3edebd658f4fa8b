/-
  sameRows (17).
-/
import Derived.Test.Qxb6601538aCells
namespace Go.Proofs.Qxb6601538a
open Go Go.RowKit
set_option linter.unusedVariables false
set_option linter.unusedSimpArgs false

/-- THE STATE OF sameRows: both arrays boxed. -/
structure SR (w wr : World) (A B : Array Value) : Prop where
  a : wr.heap[w.heap.size]? = some (.cells A 35 (0, 0))
  b : wr.heap[w.heap.size + 1]? = some (.cells B 35 (0, 0))
  be : Below w.heap.size w wr
theorem SR.start {w : World} {A B : Array Value} : SR w ((w.alloc (.cells A 35)).alloc (.cells B 35)) A B := by
  have e0 : (w.alloc (.cells A 35)).heap.size = w.heap.size + 1 := by simp
  refine ⟨?_, ?_, ((Below.refl _ _).alloc (Nat.le_refl _) _).alloc (by omega) _⟩
  · rw [Below.heap_alloc _ _ _ (by omega)]; exact heap_alloc_new w _
  · rw [← e0]; exact heap_alloc_new _ _
theorem SR.drewN {w wr : World} {A B : Array Value} (h : SR w wr A B) (q : Nat) : SR w (wr.drewN q) A B := ⟨h.a, h.b, ⟨h.be.os, h.be.tape, h.be.output, h.be.size, h.be.block⟩⟩
theorem SR.old {w wr : World} {A B : Array Value} (h : SR w wr A B) {b o : Nat} {v : Value} (hc : w.cell? ⟨b, o, none⟩ = some v) : wr.cell? ⟨b, o, none⟩ = some v := by
  rw [h.be.cell (World.block_lt_of_cell? w _ hc)]; exact hc

set_option maxRecDepth 100000 in
set_option maxHeartbeats 2000000 in
theorem same_any (A B : Array Value) (G : Cont) (w : World) (ha : SeenR w A G) (hb : SeenR w B G) :
    Calls Try.prog 17 #[.agg A, .agg B] w fun e w' => e = .returned (.bool true) ∧ Below w.heap.size w w' := by
  go_enter Try.func17, Try.ntmps17
  go_wp2_with fail
  go_loopw [5] (fun i wr => ∃ k : Nat, k ≤ 54 ∧ i = .int .i64 k ∧ SR w wr A B) (fun i _ => 54 - (intOf i).toNat)
  case atStart => exact ⟨0, by omega, rfl, SR.start⟩
  case round =>
    obtain ⟨k, hk, rfl, hR⟩ := hrel
    by_cases hlt : k < 54
    · have b0 : (0 : Int) ≤ (k : Int) := by omega
      have b1 : (k : Int) < 54 := by omega
      rcases ha.row k hlt with ⟨hca, hG⟩ | ⟨ba, oa, f, hca, hG, hcella⟩
      · rcases hb.row k hlt with ⟨hcb, _⟩ | ⟨bb, ob, f', hcb, hG', _⟩
        · have k1 : wr.cell? ⟨w.heap.size, k, none⟩ = some (.pointer none) := by rw [cell_of_row _ _ _ _ _ _ hR.a]; exact hca
          have k2 : wr.cell? ⟨w.heap.size + 1, k, none⟩ = some (.pointer none) := by rw [cell_of_row _ _ _ _ _ _ hR.b]; exact hcb
          have HR : Hid (SR w wr A B) := hR
          clear hR hca hcb hG ha hb
          go_wp2
          go_quiet (fail)
          go_wp2
          go_roundw
          case rel => exact ⟨k + 1, by omega, by go_num, HR.out.drewN _⟩
          case measure => simp [intOf]; omega
        · rw [hG] at hG'; cases hG'
      · rcases hb.row k hlt with ⟨_, hG'⟩ | ⟨bb, ob, f', hcb, hG', hcellb⟩
        · rw [hG] at hG'; cases hG'
        · rw [hG] at hG'
          obtain rfl := Option.some.inj hG'
          have k1 : wr.cell? ⟨w.heap.size, k, none⟩ = some (.pointer (some ⟨ba, oa, none⟩)) := by rw [cell_of_row _ _ _ _ _ _ hR.a]; exact hca
          have k2 : wr.cell? ⟨w.heap.size + 1, k, none⟩ = some (.pointer (some ⟨bb, ob, none⟩)) := by rw [cell_of_row _ _ _ _ _ _ hR.b]; exact hcb
          have HR : Hid (SR w wr A B) := hR
          have HCA : Hid (∀ c, c < 1024 → w.cell? ⟨ba, oa + c, none⟩ = some (.int .u64 (f c))) := hcella
          have HCB : Hid (∀ c, c < 1024 → w.cell? ⟨bb, ob + c, none⟩ = some (.int .u64 (f c))) := hcellb
          clear hR hG hG' ha hb hcella hcellb
          go_wp2
          go_quiet (fail)
          go_wp2
          have hR2 := HR.out.drewN nq
          clear HR k1 k2
          generalize wr.drewN nq = wz at hR2 ⊢
          go_loopw [6] (fun i wr => ∃ c : Nat, c ≤ 1024 ∧ i = .int .i64 c ∧ SR w wr A B) (fun i _ => 1024 - (intOf i).toNat)
          case atStart => exact ⟨0, by omega, rfl, hR2⟩
          case round =>
            obtain ⟨c, hc, rfl, hR⟩ := hrel
            clear hR2
            by_cases hlt2 : c < 1024
            · have k1 : wr.cell? ⟨w.heap.size, k, none⟩ = some (.pointer (some ⟨ba, oa, none⟩)) := by rw [cell_of_row _ _ _ _ _ _ hR.a]; exact hca
              have k2 : wr.cell? ⟨w.heap.size + 1, k, none⟩ = some (.pointer (some ⟨bb, ob, none⟩)) := by rw [cell_of_row _ _ _ _ _ _ hR.b]; exact hcb
              have k3 := hR.old (HCA.out c hlt2)
              have k4 := hR.old (HCB.out c hlt2)
              have b2 : (0 : Int) ≤ (c : Int) := by omega
              have b3 : (c : Int) < 1024 := by omega
              have HR : Hid (SR w wr A B) := hR
              clear hR hca hcb
              go_wp2
              go_quiet (fail)
              go_wp2
              go_roundw
              case rel => exact ⟨c + 1, by omega, by go_num, HR.out.drewN _⟩
              case measure => simp [intOf]; omega
            · have HR : Hid (SR w wr A B) := hR
              have b4 : (1024 : Int) ≤ (c : Int) := by omega
              clear hR hca hcb
              go_wp2
              go_roundw
              case rel => exact ⟨k + 1, by omega, by go_num, HR.out⟩
              case measure => simp [intOf]; omega
    · have HB : Hid (Below w.heap.size w wr) := hR.be
      have b5 : (54 : Int) ≤ (k : Int) := by omega
      clear hR ha hb
      go_wp2
      go_ret
      exact ⟨rfl, HB.out⟩

end Go.Proofs.Qxb6601538a
