/-
  THE WRITER IN MEMORY: indent (39), End (33), ZZEnd (22).
-/
import Derived.Test.Qxb6600821aClones
import Derived.Deep.RegionHeld3
import Derived.Deep.RegionLaw
import Derived.Deep.DrawnRows
namespace Go.Proofs.Qxb6600821a
open Go Go.RowKit
set_option linter.unusedVariables false
set_option linter.unusedSimpArgs false
attribute [local go_sem ↓] Go.wp_at_zero Go.wp_at_succ

/-- Below H, but for the block 'row', w' is as w was. -/
structure Upto (H : Nat) (row : Option Nat) (w w' : World) : Prop where
  os : w'.os = w.os
  tape : w'.tape = w.tape
  output : w'.output = w.output
  size : w.heap.size ≤ w'.heap.size
  block : ∀ k, k < H → some k ≠ row → w'.heap[k]? = w.heap[k]?
theorem Upto.refl (H : Nat) (row : Option Nat) (w : World) : Upto H row w w := ⟨rfl, rfl, rfl, Nat.le_refl _, fun _ _ _ => rfl⟩
theorem Upto.trans {H : Nat} {row : Option Nat} {a b c : World} (h : Upto H row a b) (k : Upto H row b c) : Upto H row a c :=
  ⟨k.os.trans h.os, k.tape.trans h.tape, k.output.trans h.output, Nat.le_trans h.size k.size, fun i hi hne => (k.block i hi hne).trans (h.block i hi hne)⟩
theorem Upto.of {H : Nat} {row r : Option Nat} {w w' : World} (h : w.grownBy w' r) (hr : r = row ∨ ∀ n, r = some n → H ≤ n) (hH : H ≤ w.heap.size) : Upto H row w w' := by
  refine ⟨h.os, h.tape, h.output, h.size, fun k hk hne => h.block k (by omega) ?_⟩
  rcases hr with rfl | hr
  · exact hne
  · intro e
    have := hr k e.symm
    omega
theorem Upto.setCell {H : Nat} {row : Option Nat} {w : World} {p : Addr} (hp : H ≤ p.block) (u : Value) : Upto H row w (w.setCell p u) :=
  ⟨rfl, rfl, rfl, by simp [World.setCell], fun k hk _ => Below.heap_setCell _ _ _ _ (by omega)⟩
theorem Upto.grown {row : Option Nat} {w w' : World} (h : Upto w.heap.size row w w') : w.grownBy w' row := ⟨h.os, h.tape, h.output, h.size, h.block⟩

/-- THE WRITER at block Bw. -/
structure WI (base H Bw : Nat) (row : Option Nat) (w0 w : World) (vb : Value) (dep : Int) (vo : Value) (tag : Bool) (m : Nat) (xs : List Value) : Prop where
  blk : w.heap[Bw]? = some (.cells #[vb, .int .i64 dep, vo, .bool tag] 55 (0, 0))
  own : w.ownsRow base 5 1 vb m xs
  up : Upto H row w0 w
  lies : vb.ownBlock = row ∨ ∃ k, vb.ownBlock = some k ∧ H ≤ k
  hH : H ≤ w0.heap.size
  hB : H ≤ Bw
  hbase : base ≤ w0.heap.size

section
variable {base H Bw : Nat} {row : Option Nat} {w0 w : World} {vb : Value} {dep : Int} {vo : Value} {tag : Bool} {m : Nat} {xs : List Value}

theorem WI.c0 (h : WI base H Bw row w0 w vb dep vo tag m xs) : w.cell? ⟨Bw, 0, none⟩ = some vb := by simp [World.cell?, h.blk]
theorem WI.c1 (h : WI base H Bw row w0 w vb dep vo tag m xs) : w.cell? ⟨Bw, 1, none⟩ = some (.int .i64 dep) := by simp [World.cell?, h.blk]
theorem WI.c2 (h : WI base H Bw row w0 w vb dep vo tag m xs) : w.cell? ⟨Bw, 2, none⟩ = some vo := by simp [World.cell?, h.blk]
theorem WI.c3 (h : WI base H Bw row w0 w vb dep vo tag m xs) : w.cell? ⟨Bw, 3, none⟩ = some (.bool tag) := by simp [World.cell?, h.blk]
theorem WI.fz (h : WI base H Bw row w0 w vb dep vo tag m xs) (j : Nat) : w.frozen? ⟨Bw, j, none⟩ = false := by simp [World.frozen?, h.blk]
theorem WI.drew (h : WI base H Bw row w0 w vb dep vo tag m xs) : WI base H Bw row w0 w.drew vb dep vo tag m xs :=
  ⟨h.blk, h.own, ⟨h.up.os, h.up.tape, h.up.output, h.up.size, h.up.block⟩, h.lies, h.hH, h.hB, h.hbase⟩
theorem WI.drewN (h : WI base H Bw row w0 w vb dep vo tag m xs) (q : Nat) : WI base H Bw row w0 (w.drewN q) vb dep vo tag m xs :=
  ⟨h.blk, h.own, ⟨h.up.os, h.up.tape, h.up.output, h.up.size, h.up.block⟩, h.lies, h.hH, h.hB, h.hbase⟩
theorem WI.far (h : WI base H Bw row w0 w vb dep vo tag m xs) : vb.ownBlock ≠ some Bw := by
  intro e
  rcases h.own.2 with ⟨rfl, _⟩ | ⟨g, cap, cur, rfl, _, hg, _⟩
  · simp [Value.ownBlock] at e
  · simp [Value.ownBlock] at e
    subst e
    have := h.blk
    rw [hg] at this
    simp at this
theorem heap_set_same {w : World} {b j : Nat} {cs : Array Value} {t : TypeId} (u : Value) (h : w.heap[b]? = some (.cells cs t (0, 0))) : (w.setCell ⟨b, j, none⟩ u).heap[b]? = some (.cells (cs.setIfInBounds j u) t (0, 0)) :=
  heap_setCell_same w b j cs t u h
theorem blk_facts {w : World} {Bw : Nat} {v0 v1 v2 v3 : Value} {t : TypeId} (h : w.heap[Bw]? = some (.cells #[v0, v1, v2, v3] t (0, 0))) :
    w.cell? ⟨Bw, 0, none⟩ = some v0 ∧ w.cell? ⟨Bw, 1, none⟩ = some v1 ∧ w.cell? ⟨Bw, 2, none⟩ = some v2 ∧ w.cell? ⟨Bw, 3, none⟩ = some v3 ∧ ∀ j, w.frozen? ⟨Bw, j, none⟩ = false :=
  ⟨by simp [World.cell?, h], by simp [World.cell?, h], by simp [World.cell?, h], by simp [World.cell?, h], fun j => by simp [World.frozen?, h]⟩
/-- An append of the writer's bytes, and the store into its field. -/
theorem WI.append (h : WI base H Bw row w0 w vb dep vo tag m xs) {w1 : World} {v' : Value} {m' : Nat} {xs' : List Value} (hown : w1.ownsRow base 5 1 v' m' xs') (hgrow : w.grownBy w1 vb.ownBlock)
    (hat : v'.ownBlock = vb.ownBlock ∨ v'.ownBlock = some w.heap.size) : w1.heap[Bw]? = some (.cells #[vb, .int .i64 dep, vo, .bool tag] 55 (0, 0)) ∧ WI base H Bw row w0 (w1.setCell ⟨Bw, 0, none⟩ v') v' dep vo tag m' xs' := by
  have hlt : Bw < w.heap.size := lt_of_block h.blk
  have hb1 : w1.heap[Bw]? = some (.cells #[vb, .int .i64 dep, vo, .bool tag] 55 (0, 0)) := by
    rw [hgrow.block Bw hlt (fun e => h.far e.symm)]; exact h.blk
  have hsz := h.up.size
  have hH := h.hH
  have hfar : v'.ownBlock ≠ some Bw := by
    intro e
    rcases hown.2 with ⟨rfl, _⟩ | ⟨g, cap, cur, rfl, _, hg, _⟩
    · simp [Value.ownBlock] at e
    · simp [Value.ownBlock] at e
      subst e
      rw [hg] at hb1
      simp at hb1
  refine ⟨hb1, ⟨?_, ownsRow_setCell_other hown hfar v', (h.up.trans (Upto.of hgrow ?_ (by omega))).trans (Upto.setCell h.hB v'), ?_, hH, h.hB, h.hbase⟩⟩
  · have := heap_set_same (j := 0) v' hb1
    rw [this]
    rfl
  · rcases h.lies with hl | ⟨k, hl, hk⟩
    · exact .inl hl
    · exact .inr fun n hn => by rw [hl] at hn; cases hn; exact hk
  · rcases hat with e | e
    · rw [e]; exact h.lies
    · exact .inr ⟨_, e, by omega⟩
/-- A store into the field 'open'. -/
theorem WI.setOpen (h : WI base H Bw row w0 w vb dep vo tag m xs) (v' : Value) : WI base H Bw row w0 (w.setCell ⟨Bw, 2, none⟩ v') vb dep v' tag m xs := by
  refine ⟨?_, ownsRow_setCell_other h.own h.far v', h.up.trans (Upto.setCell h.hB v'), h.lies, h.hH, h.hB, h.hbase⟩
  rw [heap_set_same (j := 2) v' h.blk]
  rfl
/-- A store into the field 'inTag'. -/
theorem WI.setTag (h : WI base H Bw row w0 w vb dep vo tag m xs) (t' : Bool) : WI base H Bw row w0 (w.setCell ⟨Bw, 3, none⟩ (.bool t')) vb dep vo t' m xs := by
  refine ⟨?_, ownsRow_setCell_other h.own h.far _, h.up.trans (Upto.setCell h.hB _), h.lies, h.hH, h.hB, h.hbase⟩
  rw [heap_set_same (j := 3) (.bool t') h.blk]
  rfl
theorem WI.rep {c q : Nat} {x : Value} (h : WI base H Bw row w0 w vb dep vo tag (m + c + q) (xs ++ List.replicate c x ++ List.replicate q x)) : WI base H Bw row w0 w vb dep vo tag (m + (c + q)) (xs ++ List.replicate (c + q) x) := by
  rw [← List.replicate_append_replicate, ← List.append_assoc, ← Nat.add_assoc]
  exact h
theorem WI.baseLe (h : WI base H Bw row w0 w vb dep vo tag m xs) : base ≤ w.heap.size := Nat.le_trans h.hbase h.up.size
end

/-- The writer's piece of spaces. -/
theorem spaces_cells (q : Nat) (h : q ≤ 20) : byteCells (({ data := #[32, 32, 32, 32, 32, 32, 32, 32, 32, 32, 32, 32, 32, 32, 32, 32, 32, 32, 32, 32] } : ByteArray).extract 0 q) = List.replicate q (.int .u8 32) := by
  match q, h with
  | 0, _ => rfl
  | 1, _ => rfl
  | 2, _ => rfl
  | 3, _ => rfl
  | 4, _ => rfl
  | 5, _ => rfl
  | 6, _ => rfl
  | 7, _ => rfl
  | 8, _ => rfl
  | 9, _ => rfl
  | 10, _ => rfl
  | 11, _ => rfl
  | 12, _ => rfl
  | 13, _ => rfl
  | 14, _ => rfl
  | 15, _ => rfl
  | 16, _ => rfl
  | 17, _ => rfl
  | 18, _ => rfl
  | 19, _ => rfl
  | 20, _ => rfl
  | q + 21, h => exact absurd h (by omega)

theorem spaces_src (q : Nat) (h : q ≤ 20) (W : World) : Src Try.prog 1 9 (.string (({ data := #[32, 32, 32, 32, 32, 32, 32, 32, 32, 32, 32, 32, 32, 32, 32, 32, 32, 32, 32, 32] } : ByteArray).extract 0 q)) q (List.replicate q (.int .u8 32)) W := by
  have hs := Src.ofString (P := Try.prog) W Try.underlying9 (({ data := #[32, 32, 32, 32, 32, 32, 32, 32, 32, 32, 32, 32, 32, 32, 32, 32, 32, 32, 32, 32] } : ByteArray).extract 0 q)
  have hl := byteCells_length (({ data := #[32, 32, 32, 32, 32, 32, 32, 32, 32, 32, 32, 32, 32, 32, 32, 32, 32, 32, 32, 32] } : ByteArray).extract 0 q)
  rw [spaces_cells q h] at hs hl
  rw [← hl, List.length_replicate] at hs
  exact hs

set_option maxHeartbeats 2000000 in
theorem indent_any (base H Bw : Nat) (row : Option Nat) (w0 w : World) (vb : Value) (dep : Int) (oo : Option Addr) (p oc : Nat) (tag : Bool) (m : Nat) (xs : List Value)
    (h : WI base H Bw row w0 w vb dep (.slice oo p oc) tag m xs) (hm : m ≤ 1099511627776) (hp : p ≤ 65536) (hd0 : -65536 ≤ dep) (hd1 : dep ≤ 65536) :
    Calls Try.prog 39 #[.pointer (some ⟨Bw, 0, none⟩)] w fun e w' => e = .returned (.tuple #[]) ∧ ∃ v', WI base H Bw row w0 w' v' dep (.slice oo p oc) tag (m + (2 * (dep + p)).toNat) (xs ++ List.replicate (2 * (dep + p)).toNat (.int .u8 32)) := by
  obtain ⟨i0, hi, hz0, hz1, hz2⟩ := info_parts Try.info5
  have k0 := h.c0
  have k1 := h.c1
  have k2 := h.c2
  go_enter Try.func39, Try.ntmps39
  go_wp2
  go_quiet (fail)
  go_wp2
  obtain ⟨T, hT⟩ : ∃ T : Int, T = 2 * (dep + (p : Int)) := ⟨_, rfl⟩
  have hT0 : -300000 ≤ T := by omega
  have hT1 : T ≤ 300000 := by omega
  rw [← hT]
  go_loopw [2] (fun t wr => ∃ (r : Int) (c : Nat) (v : Value), t = .int .i64 r ∧ -300000 ≤ r ∧ r ≤ 300000 ∧ c ≤ 300000 ∧ (0 < r → (c : Int) + r = T) ∧ (r ≤ 0 → c = T.toNat) ∧ WI base H Bw row w0 wr v dep (.slice oo p oc) tag (m + c) (xs ++ List.replicate c (.int .u8 32))) (fun t _ => (intOf t).toNat)
  case atStart => exact ⟨T, 0, vb, rfl, by omega, by omega, by omega, by omega, by omega, by simpa using h.drewN nq⟩
  case round =>
    obtain ⟨r, c, v, rfl, hr0, hr1, hc, hpos, hneg, hI⟩ := hrel
    have HT : Hid (T = 2 * (dep + (p : Int))) := hT
    clear h k0 k1 k2 hT
    by_cases hlt : 0 < r
    · have k0 := hI.c0
      have kf := hI.fz 0
      have hbl := hI.baseLe
      by_cases hbig : r ≤ 20
      · obtain ⟨q, rfl⟩ : ∃ q : Nat, r = (q : Int) := ⟨r.toNat, by omega⟩
        have q0 : (0 : Int) ≤ (q : Int) := by omega
        have q1 : (q : Int) ≤ (20 : Int) := by omega
        have q2 : (if (20 : Int) < (q : Int) then (20 : Int) else (q : Int)) = (q : Int) := if_neg (by omega)
        have HS : Hid (q ≤ 20) := show q ≤ 20 by omega
        go_wp2
        go_region_law ((refine step_append_srcP _ rfl (.tmp 22) (.tmp 25) 29 9 rfl base 5 i0 (.int .u8 0) 1 1 Try.underlying29 hi hz0 hz1 hz2 rfl v (m + c) _ (by rfl) (ownsRow_drew hI.own) _ q _ (by rfl) (spaces_src q HS.out _) (by omega) (by unfold maxLen; omega) (by omega) hbl ?_; intro g cap w1 hown1 hgrow1 hat1; obtain ⟨hB1, hJ⟩ := WI.append hI.drew hown1 hgrow1 hat1; obtain ⟨ka, _, _, _, kb⟩ := blk_facts hB1; clear hown1 hgrow1 hat1 hB1))
        all_goals
          have HJ := hJ.rep
          clear hJ q2
          go_wp2
          go_roundw
          case rel => exact ⟨_, c + q, _, rfl, by omega, by omega, by omega, by omega, by omega, HJ⟩
          case measure => simp [intOf]; omega
      · have q2 : (if (20 : Int) < r then (20 : Int) else r) = (20 : Int) := if_pos (by omega)
        go_wp2
        go_region_law ((refine step_append_srcP _ rfl (.tmp 22) (.tmp 25) 29 9 rfl base 5 i0 (.int .u8 0) 1 1 Try.underlying29 hi hz0 hz1 hz2 rfl v (m + c) _ (by rfl) (ownsRow_drew hI.own) _ 20 _ (by rfl) (spaces_src 20 (Nat.le_refl _) _) (by omega) (by unfold maxLen; omega) (by omega) hbl ?_; intro g cap w1 hown1 hgrow1 hat1; obtain ⟨hB1, hJ⟩ := WI.append hI.drew hown1 hgrow1 hat1; obtain ⟨ka, _, _, _, kb⟩ := blk_facts hB1; clear hown1 hgrow1 hat1 hB1))
        all_goals
          have HJ := hJ.rep
          clear hJ q2
          go_wp2
          go_roundw
          case rel => exact ⟨_, c + 20, _, rfl, by omega, by omega, by omega, by omega, by omega, HJ⟩
          case measure => simp [intOf]; omega
    · have HE : Hid (c = (2 * (dep + (p : Int))).toNat) := show c = _ by rw [← HT.out]; exact hneg (by omega)
      clear hpos hneg
      go_wp2
      go_end0
      refine ⟨rfl, v, ?_⟩
      rw [← HE.out]
      exact hI

end Go.Proofs.Qxb6600821a
