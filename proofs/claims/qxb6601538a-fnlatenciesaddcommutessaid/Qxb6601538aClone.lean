/-
  cloneRows (15).
-/
import Derived.Test.Qxb6601538aCells
namespace Go.Proofs.Qxb6601538a
open Go Go.RowKit
set_option linter.unusedVariables false
set_option linter.unusedSimpArgs false

/-- THE STATE OF cloneRows at the head of round k. -/
structure CR (w wr : World) (C D : Array Value) (k : Nat) (G : Cont) : Prop where
  arg : wr.heap[w.heap.size]? = some (.cells C 35 (0, 0))
  res : ∃ Z, wr.heap[w.heap.size + 1]? = some (.cells Z 35 (0, 0)) ∧ Z.size = 54
  out : wr.heap[w.heap.size + 2]? = some (.cells D 35 (0, 0))
  held : Held wr (w.heap.size + 3) wr.heap.size D k G
  rest : ∀ r, k ≤ r → r < 54 → D[r]? = some (.pointer none)
  be : Below w.heap.size w wr
  sz : w.heap.size + 3 ≤ wr.heap.size

theorem CR.start {w : World} {C Z : Array Value} {G : Cont} (hZ : Z.size = 54) (hz : ∀ r, r < 54 → Z[r]? = some (.pointer none)) : CR w (((w.alloc (.cells C 35)).alloc (.cells Z 35)).alloc (.cells Z 35)) C Z 0 G := by
  have e0 : (w.alloc (.cells C 35)).heap.size = w.heap.size + 1 := by simp
  have e1 : ((w.alloc (.cells C 35)).alloc (.cells Z 35)).heap.size = w.heap.size + 2 := by simp
  refine ⟨?_, ⟨Z, ?_, hZ⟩, ?_, ⟨hZ, fun r hr => by omega, fun r s b hr hs => by omega⟩, fun r _ hr => hz r hr, ?_, by simp⟩
  · rw [Below.heap_alloc _ _ _ (by omega), Below.heap_alloc _ _ _ (by omega)]; exact heap_alloc_new w _
  · rw [Below.heap_alloc _ _ _ (by omega), ← e0]; exact heap_alloc_new _ _
  · rw [← e1]; exact heap_alloc_new _ _
  · exact (((Below.refl _ _).alloc (Nat.le_refl _) _).alloc (by omega) _).alloc (by omega) _

/-- A round that meets nil. -/
theorem CR.skip {w wr : World} {C D : Array Value} {k : Nat} {G : Cont} (h : CR w wr C D k G) (hk : k < 54) (hG : G k = none) : CR w wr C D (k + 1) G :=
  ⟨h.arg, h.res, h.out, ⟨h.held.size, fun r hr => by
      rcases Nat.lt_or_eq_of_le (Nat.lt_succ_iff.1 hr) with hr | rfl
      · exact h.held.row r hr
      · exact .inl ⟨h.rest r (Nat.le_refl _) hk, hG⟩, fun r s b hrs hs h1 h2 => by
      rcases Nat.lt_or_eq_of_le (Nat.lt_succ_iff.1 hs) with hs | rfl
      · exact h.held.apart r s b hrs hs h1 h2
      · rw [h.rest s (Nat.le_refl _) hk] at h2; simp at h2⟩, fun r hr1 hr2 => h.rest r (by omega) hr2, h.be, h.sz⟩

/-- A round that meets a row: its copy is laid in the new block nb. -/
theorem CR.put {w wr w2 : World} {C D : Array Value} {k : Nat} {G : Cont} {f : Nat → Int} (h : CR w wr C D k G) (hk : k < 54) (hG : G k = some f) (hb : Below wr.heap.size wr w2) (hr : w2.heap[wr.heap.size]? = some (.cells (rowArr f) 48 (0, 0))) :
    CR w (w2.setCell ⟨w.heap.size + 2, k, none⟩ (.pointer (some ⟨wr.heap.size, 0, none⟩))) C (D.setIfInBounds k (.pointer (some ⟨wr.heap.size, 0, none⟩))) (k + 1) G := by
  have hsz := h.sz
  have hlt := lt_of_block hr
  obtain ⟨Z, hZ, hZ2⟩ := h.res
  have hD := h.held.size
  have hother : ∀ j, j ≠ w.heap.size + 2 → (w2.setCell ⟨w.heap.size + 2, k, none⟩ (.pointer (some ⟨wr.heap.size, 0, none⟩))).heap[j]? = w2.heap[j]? := fun j hj => heap_setCell_other _ _ _ _ hj
  have hget : ∀ r, r ≠ k → (D.setIfInBounds k (.pointer (some ⟨wr.heap.size, 0, none⟩)))[r]? = D[r]? := fun r hr => by rw [Array.getElem?_setIfInBounds, if_neg (fun e => hr e.symm)]
  have hself : (D.setIfInBounds k (.pointer (some ⟨wr.heap.size, 0, none⟩)))[k]? = some (.pointer (some ⟨wr.heap.size, 0, none⟩)) := by rw [Array.getElem?_setIfInBounds, if_pos rfl, if_pos (by omega)]
  have hs2 : (w2.setCell ⟨w.heap.size + 2, k, none⟩ (.pointer (some ⟨wr.heap.size, 0, none⟩))).heap.size = w2.heap.size := by simp [World.setCell]
  refine ⟨?_, ⟨Z, ?_, hZ2⟩, ?_, ⟨by simpa using hD, fun r hr' => ?_, fun r s b hrs hs h1 h2 => ?_⟩, fun r h1 h2 => ?_, ?_, by omega⟩
  · rw [hother _ (by omega), hb.block _ (by omega)]; exact h.arg
  · rw [hother _ (by omega), hb.block _ (by omega)]; exact hZ
  · exact heap_setCell_same _ _ _ _ _ _ (by rw [hb.block _ (by omega)]; exact h.out)
  · rcases Nat.lt_or_eq_of_le (Nat.lt_succ_iff.1 hr') with hr' | rfl
    · rcases h.held.row r hr' with ⟨a1, a2⟩ | ⟨b, f', a1, a2, a3, a4, a5⟩
      · exact .inl ⟨by rw [hget r (by omega)]; exact a1, a2⟩
      · exact .inr ⟨b, f', by rw [hget r (by omega)]; exact a1, a2, a3, by omega, by rw [hother b (by omega), hb.block b (by omega)]; exact a5⟩
    · exact .inr ⟨wr.heap.size, f, hself, hG, by omega, by omega, by rw [hother _ (by omega)]; exact hr⟩
  · rw [hget r (by omega)] at h1
    rcases Nat.lt_or_eq_of_le (Nat.lt_succ_iff.1 hs) with hs | rfl
    · rw [hget s (by omega)] at h2
      exact h.held.apart r s b hrs hs h1 h2
    · rw [hself] at h2
      simp at h2
      subst h2
      rcases h.held.row r hrs with ⟨a1, _⟩ | ⟨b, f', a1, a2, a3, a4, a5⟩
      · rw [a1] at h1; simp at h1
      · rw [a1] at h1; simp at h1 <;> omega
  · rw [hget r (by omega)]; exact h.rest r (by omega) h2
  · exact (h.be.trans (hb.mono h.be.size)).setCell (p := ⟨w.heap.size + 2, k, none⟩) (by simp) _

set_option maxRecDepth 100000 in
set_option maxHeartbeats 2000000 in
theorem clone_any (C : Array Value) (G : Cont) (w : World) (hs : SeenR w C G) :
    Calls Try.prog 15 #[.agg C] w fun e w' => ∃ D, e = .returned (.agg D) ∧ Held w' w.heap.size w'.heap.size D 54 G ∧ Below w.heap.size w w' := by
  have hz48 := zero48
  go_enter Try.func15, Try.ntmps15
  go_wp2_with fail
  go_loopw [4] (fun i wr => ∃ (k : Nat) (D : Array Value), k ≤ 54 ∧ i = .int .i64 k ∧ CR w wr C D k G) (fun i _ => 54 - (intOf i).toNat)
  case atStart => exact ⟨0, _, by omega, rfl, CR.start (by rfl) (fun r hr => show (Array.replicate 54 (Value.pointer none))[r]? = some (.pointer none) by simp [hr])⟩
  case round =>
    obtain ⟨k, D, hk, rfl, hR⟩ := hrel
    by_cases hlt : k < 54
    · rcases hs.row k hlt with ⟨hc, hG⟩ | ⟨b, o, f, hc, hG, hcell⟩
      · have k1 : wr.cell? ⟨w.heap.size, k, none⟩ = some (.pointer none) := by rw [cell_of_row _ _ _ _ _ _ hR.arg]; exact hc
        have HR : Hid _ := hR.skip hlt hG
        have b1 : (k : Int) < 54 := by omega
        clear hR hc hG hs
        go_wp2
        go_roundw
        case rel => exact ⟨k + 1, D, by omega, by go_num, HR.out⟩
        case measure => simp [intOf]; omega
      · have k1 : wr.cell? ⟨w.heap.size, k, none⟩ = some (.pointer (some ⟨b, o, none⟩)) := by rw [cell_of_row _ _ _ _ _ _ hR.arg]; exact hc
        have b1 : (k : Int) < 54 := by omega
        clear hc
        generalize wr = wz at hR k1 ⊢
        have hbz := hR.be
        go_wp2
        go_loopw [6] (fun i w2 => ∃ (c : Nat) (R : Array Value), c ≤ 1024 ∧ i = .int .i64 c ∧ w2.heap[wz.heap.size]? = some (.cells R 48 (0, 0)) ∧ R.size = 1024 ∧ (∀ j, j < c → R[j]? = some (.int .u64 (f j))) ∧ Below wz.heap.size wz w2) (fun i _ => 1024 - (intOf i).toNat)
        case atStart => exact ⟨0, Z48, by omega, rfl, heap_alloc_new wz _, Z48_size, fun j hj => by omega, (Below.refl _ _).alloc (Nat.le_refl _) _⟩
        case round =>
          obtain ⟨c, R, hcl, rfl, hblk, hRs, hRg, hbe⟩ := hrel
          by_cases hlt2 : c < 1024
          · have k2 : wr.cell? ⟨w.heap.size, k, none⟩ = some (.pointer (some ⟨b, o, none⟩)) := by rw [hbe.cell (by have := hR.sz; simp; omega)]; exact k1
            have hcz : wz.cell? ⟨b, o + c, none⟩ = some (.int .u64 (f c)) := by
              have h0 := hcell c hlt2
              rw [hbz.cell (World.block_lt_of_cell? w _ h0)]
              exact h0
            have k3 : wr.cell? ⟨b, o + c, none⟩ = some (.int .u64 (f c)) := by rw [hbe.cell (World.block_lt_of_cell? wz _ hcz)]; exact hcz
            have k4 : wr.frozen? ⟨wz.heap.size, c, none⟩ = false := frozen_of_row _ _ _ _ _ hblk
            obtain ⟨old, hold⟩ : ∃ old, wr.cell? ⟨wz.heap.size, c, none⟩ = some old := by
              rw [cell_of_row _ _ _ _ _ _ hblk, Array.getElem?_eq_getElem (by omega)]
              exact ⟨_, rfl⟩
            have b2 : (0 : Int) ≤ (c : Int) := by omega
            have b3 : (c : Int) < 1024 := by omega
            have b4 : (0 : Int) ≤ (k : Int) := by omega
            have HB : Hid (Below wz.heap.size wz (wr.setCell ⟨wz.heap.size, c, none⟩ (.int .u64 (f c)))) := hbe.setCell (p := ⟨wz.heap.size, c, none⟩) (Nat.le_refl _) _
            have HK : Hid ((wr.setCell ⟨wz.heap.size, c, none⟩ (.int .u64 (f c))).heap[wz.heap.size]? = some (.cells (R.setIfInBounds c (.int .u64 (f c))) 48 (0, 0))) := heap_setCell_same _ _ _ _ _ _ hblk
            have HG : Hid (∀ j, j < c + 1 → (R.setIfInBounds c (.int .u64 (f c)))[j]? = some (.int .u64 (f j))) := fun j hj => by
              rw [Array.getElem?_setIfInBounds]
              by_cases e : c = j
              · subst e; rw [if_pos rfl, if_pos (by omega)]
              · rw [if_neg e]; exact hRg j (by omega)
            clear hblk hRg hbe hbz hcz hcell hR k1 hs
            go_wp2
            go_region
            all_goals
              go_wp2
              go_roundw
              case rel => exact ⟨c + 1, _, by omega, by go_num, HK.out, by simpa using hRs, HG.out, ⟨HB.out.os, HB.out.tape, HB.out.output, HB.out.size, HB.out.block⟩⟩
              case measure => simp [intOf]; omega
          · have hRe : R = rowArr f := rowArr_eq hRs (fun j hj => hRg j (by omega))
            subst hRe
            have hsz := hR.sz
            have hlt3 := lt_of_block hblk
            have HP : Hid (CR w (wr.setCell ⟨w.heap.size + 2, k, none⟩ (.pointer (some ⟨wz.heap.size, 0, none⟩))) C (D.setIfInBounds k (.pointer (some ⟨wz.heap.size, 0, none⟩))) (k + 1) G) := hR.put hlt hG hbe hblk
            have ho2 : wr.heap[w.heap.size + 2]? = some (.cells D 35 (0, 0)) := by rw [hbe.block _ (by omega)]; exact hR.out
            have k5 : wr.frozen? ⟨w.heap.size + 1 + 1, k, none⟩ = false := frozen_of_row _ _ _ _ _ ho2
            obtain ⟨old, hold⟩ : ∃ old, wr.cell? ⟨w.heap.size + 1 + 1, k, none⟩ = some old := by
              rw [cell_of_row _ _ _ _ _ _ (show wr.heap[w.heap.size + 1 + 1]? = _ from ho2), Array.getElem?_eq_getElem (by have := hR.held.size; omega)]
              exact ⟨_, rfl⟩
            have b5 : (1024 : Int) ≤ (c : Int) := by omega
            clear ho2 hR hRg hblk hbe hbz hcell k1 hs hRs hcl hlt2 hz48 hlt3
            go_wp2
            go_roundw
            case rel => exact ⟨k + 1, _, by omega, by go_num, HP.out⟩
            case measure => simp [intOf]; omega
    · have hk54 : k = 54 := by omega
      subst hk54
      obtain ⟨Z, hZ, hZ2⟩ := hR.res
      have hone := hR.held.oneCell
      have hDs := hR.held.size
      have hOut := hR.out
      have hsz := hR.sz
      have H1 : Hid (Held (wr.setRow (w.heap.size + 1) D) w.heap.size (wr.setRow (w.heap.size + 1) D).heap.size D 54 G) := by
        refine ⟨hDs, fun r hr => ?_, hR.held.apart⟩
        rcases hR.held.row r hr with h0 | ⟨b, f, h1, h2, h3, h4, h5⟩
        · exact .inl h0
        · exact .inr ⟨b, f, h1, h2, by omega, by simpa [World.setRow] using h4, by rw [setRow_other _ _ _ _ (by omega)]; exact h5⟩
      have H2 : Hid (Below w.heap.size w (wr.setRow (w.heap.size + 1) D)) := hR.be.trans ⟨rfl, rfl, rfl, by simp [World.setRow], fun k hk => setRow_other _ _ _ _ (by omega)⟩
      have H3 : Hid ((wr.setRow (w.heap.size + 1) D).heap[w.heap.size + 1]? = some (.cells D 35 (0, 0))) := setRow_heap _ _ _ _ _ _ hZ
      clear hR hs hz48
      go_wp2_with (first | (refine wpList_load_row rfl 35 (.tmp 3) rfl _ rfl D 35 hOut 54 34 Try.underlying35 size35 hDs ?_) | (refine wpList_store_row rfl 35 (.tmp 2) (.tmp 34) rfl _ Z D rfl rfl 35 hZ 54 size35 hZ2 hDs hone ?_))
      have hr := run_loadVar_row (P := Try.prog) _ _ 35 35 D (0, 0) _ H3.out Try.underlying35 rfl (by rw [hDs]; exact size35)
      exact bodyPost_ret (v := .agg D) (results_cell rfl _ _ _ _ rfl hr) rfl ⟨D, rfl, H1.out, H2.out⟩

end Go.Proofs.Qxb6601538a
