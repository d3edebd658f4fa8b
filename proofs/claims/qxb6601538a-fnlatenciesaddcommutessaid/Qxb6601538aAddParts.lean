/-
  latencies.add: its state in memory; what one round does to it.
-/
import Derived.Test.Qxb6601538aCells
namespace Go.Proofs.Qxb6601538a
open Go Go.RowKit
set_option linter.unusedVariables false
set_option linter.unusedSimpArgs false

/-- All 54 rows, each nil or a block of its own of which S holds. -/
structure HeldP (w : World) (S : Nat → Prop) (D : Array Value) (G : Cont) : Prop where
  size : D.size = 54
  row : ∀ r, r < 54 → (D[r]? = some (.pointer none) ∧ G r = none) ∨ ∃ b h, D[r]? = some (.pointer (some ⟨b, 0, none⟩)) ∧ G r = some h ∧ S b ∧ w.heap[b]? = some (.cells (rowArr h) 48 (0, 0))
  apart : ∀ r s b, r < 54 → s < 54 → D[r]? = some (.pointer (some ⟨b, 0, none⟩)) → D[s]? = some (.pointer (some ⟨b, 0, none⟩)) → r = s

theorem Held.toP {w : World} {lo hi : Nat} {S : Nat → Prop} {D : Array Value} {G : Cont} (h : Held w lo hi D 54 G) (hS : ∀ b, lo ≤ b → b < hi → S b) : HeldP w S D G :=
  ⟨h.size, fun r hr => by
    rcases h.row r hr with h0 | ⟨b, f, a1, a2, a3, a4, a5⟩
    · exact .inl h0
    · exact .inr ⟨b, f, a1, a2, hS b a3 a4, a5⟩, fun r s b hr hs h1 h2 => by
    rcases Nat.lt_trichotomy r s with hlt | rfl | hlt
    · exact absurd (h.apart r s b hlt hs h1 h2) (by simp)
    · rfl
    · exact absurd (h.apart s r b hlt hr h2 h1) (by simp)⟩
theorem HeldP.seen {w : World} {S : Nat → Prop} {D : Array Value} {G : Cont} (h : HeldP w S D G) : SeenR w D G :=
  ⟨h.size, fun r hr => by
    rcases h.row r hr with h0 | ⟨b, f, h1, h2, _, h5⟩
    · exact .inl h0
    · exact .inr ⟨b, 0, f, h1, h2, fun c hc => by rw [Nat.zero_add, cell_of_row w b c _ 48 (0, 0) h5, rowArr_get f c hc]⟩⟩

/-- Only block b has turned. -/
structure But (b : Nat) (w w' : World) : Prop where
  os : w'.os = w.os
  tape : w'.tape = w.tape
  output : w'.output = w.output
  size : w'.heap.size = w.heap.size
  block : ∀ k, k ≠ b → w'.heap[k]? = w.heap[k]?
theorem But.refl (b : Nat) (w : World) : But b w w := ⟨rfl, rfl, rfl, rfl, fun _ _ => rfl⟩
theorem But.drewN {b : Nat} {w w' : World} (h : But b w w') (q : Nat) : But b w (w'.drewN q) := ⟨h.os, h.tape, h.output, h.size, h.block⟩
theorem But.setCell {b c : Nat} {w w' : World} (h : But b w w') (u : Value) : But b w (w'.setCell ⟨b, c, none⟩ u) :=
  ⟨h.os, h.tape, h.output, by simpa [World.setCell] using h.size, fun k hk => (heap_setCell_other _ _ _ _ hk).trans (h.block k hk)⟩

def upd (G : Cont) (k : Nat) (v : Option (Nat → Int)) : Cont := fun r => if r = k then v else G r
theorem upd_same (G : Cont) (k : Nat) (v : Option (Nat → Int)) : upd G k v k = v := if_pos rfl
theorem upd_other (G : Cont) (k r : Nat) (v : Option (Nat → Int)) (h : r ≠ k) : upd G k v r = G r := if_neg h

/-- Where the rows of l may lie. -/
def Mine (lo hi n0 : Nat) (b : Nat) : Prop := (lo ≤ b ∧ b < hi) ∨ n0 ≤ b

/-- THE STATE OF add. -/
structure AD (w0 wr : World) (lo hi lo2 hi2 bl bo : Nat) (DL : Array Value) (lc : Int) (DO : Array Value) (oc : Int) (G GO : Cont) : Prop where
  L : wr.heap[bl]? = some (.cells (DL.push (.int .u64 lc)) 50 (0, 0))
  O : wr.heap[bo]? = some (.cells (DO.push (.int .u64 oc)) 50 (0, 0))
  rows : HeldP wr (Mine lo hi w0.heap.size) DL G
  orow : Held wr lo2 hi2 DO 54 GO
  out : Out lo hi w0 wr
  hbl : w0.heap.size ≤ bl
  hbo : w0.heap.size ≤ bo
  hne : bl ≠ bo
  hhi : hi ≤ w0.heap.size
  hhi2 : hi2 ≤ w0.heap.size
  hap : hi2 ≤ lo ∨ hi ≤ lo2

section
variable {w0 wr : World} {lo hi lo2 hi2 bl bo : Nat} {DL : Array Value} {lc : Int} {DO : Array Value} {oc : Int} {G GO : Cont}

theorem AD.drewN (h : AD w0 wr lo hi lo2 hi2 bl bo DL lc DO oc G GO) (q : Nat) : AD w0 (wr.drewN q) lo hi lo2 hi2 bl bo DL lc DO oc G GO :=
  ⟨h.L, h.O, ⟨h.rows.size, h.rows.row, h.rows.apart⟩, ⟨h.orow.size, h.orow.row, h.orow.apart⟩, h.out.drewN q, h.hbl, h.hbo, h.hne, h.hhi, h.hhi2, h.hap⟩

/-- The cell of l's row pointer. -/
theorem AD.ptr (h : AD w0 wr lo hi lo2 hi2 bl bo DL lc DO oc G GO) {k : Nat} {v : Value} (hk : DL[k]? = some v) (hlt : k < 54) : wr.cell? ⟨bl, k, none⟩ = some v := by
  have hs := h.rows.size
  rw [cell_of_row _ _ _ _ _ _ h.L, Array.getElem?_push, if_neg (by omega)]
  exact hk
theorem AD.fz (h : AD w0 wr lo hi lo2 hi2 bl bo DL lc DO oc G GO) (k : Nat) : wr.frozen? ⟨bl, k, none⟩ = false := frozen_of_row _ _ _ _ _ h.L
theorem AD.cntL (h : AD w0 wr lo hi lo2 hi2 bl bo DL lc DO oc G GO) : wr.cell? ⟨bl, 54, none⟩ = some (.int .u64 lc) := by
  have hs := h.rows.size
  rw [cell_of_row _ _ _ _ _ _ h.L, Array.getElem?_push, if_pos (by omega)]
theorem AD.cntO (h : AD w0 wr lo hi lo2 hi2 bl bo DL lc DO oc G GO) : wr.cell? ⟨bo, 54, none⟩ = some (.int .u64 oc) := by
  have hs := h.orow.size
  rw [cell_of_row _ _ _ _ _ _ h.O, Array.getElem?_push, if_pos (by omega)]

/-- A row's content has turned, in its own block. -/
theorem AD.turn (h : AD w0 wr lo hi lo2 hi2 bl bo DL lc DO oc G GO) {w2 : World} {k b : Nat} {f f' : Nat → Int} (hk : k < 54) (hp : DL[k]? = some (.pointer (some ⟨b, 0, none⟩))) (hG : G k = some f) (hb : But b wr w2)
    (hr : w2.heap[b]? = some (.cells (rowArr f') 48 (0, 0))) : AD w0 w2 lo hi lo2 hi2 bl bo DL lc DO oc (upd G k (some f')) GO := by
  have hrow := h.rows.row k hk
  obtain ⟨hm, hblk⟩ : Mine lo hi w0.heap.size b ∧ wr.heap[b]? = some (.cells (rowArr f) 48 (0, 0)) := by
    rcases hrow with ⟨a1, _⟩ | ⟨b', f'', a1, a2, a3, a4⟩
    · rw [hp] at a1; simp at a1
    · rw [hp] at a1
      simp at a1
      subst a1
      rw [hG] at a2
      obtain rfl := Option.some.inj a2
      exact ⟨a3, a4⟩
  have n1 : bl ≠ b := fun e => by subst e; have := h.L; rw [hblk] at this; simp at this
  have n2 : bo ≠ b := fun e => by subst e; have := h.O; rw [hblk] at this; simp at this
  have h1 := h.hhi
  have h2 := h.hhi2
  have h3 := h.hap
  refine ⟨by rw [hb.block _ n1]; exact h.L, by rw [hb.block _ n2]; exact h.O, ⟨h.rows.size, fun r hr' => ?_, h.rows.apart⟩, ⟨h.orow.size, fun r hr' => ?_, h.orow.apart⟩, ?_, h.hbl, h.hbo, h.hne, h1, h2, h3⟩
  · by_cases e : r = k
    · subst e
      exact .inr ⟨b, f', hp, upd_same _ _ _, hm, hr⟩
    · rw [upd_other _ _ _ _ e]
      rcases h.rows.row r hr' with h0 | ⟨b', f'', a1, a2, a3, a4⟩
      · exact .inl h0
      · exact .inr ⟨b', f'', a1, a2, a3, by rw [hb.block b' (fun e' => by subst e'; exact e (h.rows.apart r k b' hr' hk a1 hp))]; exact a4⟩
  · rcases h.orow.row r hr' with h0 | ⟨b', f'', a1, a2, a3, a4, a5⟩
    · exact .inl h0
    · exact .inr ⟨b', f'', a1, a2, a3, a4, by rw [hb.block b' (fun e' => by subst e'; rcases hm with hm | hm <;> omega)]; exact a5⟩
  · refine ⟨hb.os.trans h.out.os, hb.tape.trans h.out.tape, hb.output.trans h.out.output, by rw [hb.size]; exact h.out.size, fun j hj ho => (hb.block j (fun e => ?_)).trans (h.out.block j hj ho)⟩
    subst e
    rcases hm with hm | hm <;> omega

/-- A row that was nil is made. -/
theorem AD.fresh (h : AD w0 wr lo hi lo2 hi2 bl bo DL lc DO oc G GO) {k : Nat} (hk : k < 54) (hp : DL[k]? = some (.pointer none)) :
    AD w0 ((wr.alloc (.cells Z48 48)).setCell ⟨bl, k, none⟩ (.pointer (some ⟨wr.heap.size, 0, none⟩))) lo hi lo2 hi2 bl bo (DL.setIfInBounds k (.pointer (some ⟨wr.heap.size, 0, none⟩))) lc DO oc (upd G k (some fun _ => 0)) GO := by
  have hs := h.rows.size
  have hlt := lt_of_block h.L
  have hlto := lt_of_block h.O
  have h0 := h.out.size
  have hZ : Z48 = rowArr (fun _ => 0) := rowArr_eq Z48_size (fun c hc => Z48_get c hc)
  have hLa : (wr.alloc (.cells Z48 48)).heap[bl]? = some (.cells (DL.push (.int .u64 lc)) 50 (0, 0)) := (Below.heap_alloc _ _ _ hlt).trans h.L
  have hother : ∀ j, j ≠ bl → ((wr.alloc (.cells Z48 48)).setCell ⟨bl, k, none⟩ (.pointer (some ⟨wr.heap.size, 0, none⟩))).heap[j]? = (wr.alloc (.cells Z48 48)).heap[j]? := fun j hj => heap_setCell_other _ _ _ _ hj
  have hget : ∀ r, r ≠ k → (DL.setIfInBounds k (.pointer (some ⟨wr.heap.size, 0, none⟩)))[r]? = DL[r]? := fun r hr => by rw [Array.getElem?_setIfInBounds, if_neg (fun e => hr e.symm)]
  have hself : (DL.setIfInBounds k (.pointer (some ⟨wr.heap.size, 0, none⟩)))[k]? = some (.pointer (some ⟨wr.heap.size, 0, none⟩)) := by rw [Array.getElem?_setIfInBounds, if_pos rfl, if_pos (by omega)]
  have hnew : ((wr.alloc (.cells Z48 48)).setCell ⟨bl, k, none⟩ (.pointer (some ⟨wr.heap.size, 0, none⟩))).heap[wr.heap.size]? = some (.cells (rowArr (fun _ => 0)) 48 (0, 0)) := by
    rw [hother _ (by omega), ← hZ]; exact heap_alloc_new wr _
  have hold : ∀ j o, j ≠ bl → wr.heap[j]? = some o → ((wr.alloc (.cells Z48 48)).setCell ⟨bl, k, none⟩ (.pointer (some ⟨wr.heap.size, 0, none⟩))).heap[j]? = some o := fun j o hj ho => by
    rw [hother j hj, Below.heap_alloc _ _ _ (lt_of_block ho)]; exact ho
  have hmax : ∀ r b, r < 54 → DL[r]? = some (.pointer (some ⟨b, 0, none⟩)) → b < wr.heap.size := fun r b hr hb => by
    rcases h.rows.row r hr with ⟨a1, _⟩ | ⟨b', f, a1, _, _, a4⟩
    · rw [hb] at a1; simp at a1
    · rw [hb] at a1; simp at a1; subst a1; exact lt_of_block a4
  refine ⟨?_, hold _ _ (fun e => h.hne e.symm) h.O, ⟨by simpa using hs, fun r hr => ?_, fun r s b hr hs' h1 h2 => ?_⟩, ⟨h.orow.size, fun r hr => ?_, h.orow.apart⟩, ?_, h.hbl, h.hbo, h.hne, h.hhi, h.hhi2, h.hap⟩
  · rw [heap_setCell_same _ _ _ _ _ _ hLa]
    congr 2
    apply Array.ext_getElem?
    intro j
    rw [Array.getElem?_setIfInBounds, Array.getElem?_push, Array.getElem?_push, Array.getElem?_setIfInBounds]
    simp only [Array.size_push, Array.size_setIfInBounds]
    by_cases e : k = j
    · subst e
      rw [if_pos rfl, if_pos (by omega), if_neg (by omega), if_pos rfl, if_pos (by omega)]
    · rw [if_neg e, if_neg e]
  · by_cases e : r = k
    · subst e
      exact .inr ⟨wr.heap.size, _, hself, upd_same _ _ _, .inr h0, hnew⟩
    · rw [upd_other _ _ _ _ e, hget r e]
      rcases h.rows.row r hr with a0 | ⟨b', f, a1, a2, a3, a4⟩
      · exact .inl a0
      · exact .inr ⟨b', f, a1, a2, a3, hold b' _ (fun e' => by subst e'; have := h.L; rw [a4] at this; simp at this) a4⟩
  · by_cases e : r = k
    · by_cases e2 : s = k
      · omega
      · subst e
        rw [hself] at h1
        simp at h1
        rw [hget s e2] at h2
        have := hmax s b hs' h2
        omega
    · rw [hget r e] at h1
      by_cases e2 : s = k
      · subst e2
        rw [hself] at h2
        simp at h2
        have := hmax r b hr h1
        omega
      · rw [hget s e2] at h2
        exact h.rows.apart r s b hr hs' h1 h2
  · rcases h.orow.row r hr with a0 | ⟨b', f, a1, a2, a3, a4, a5⟩
    · exact .inl a0
    · exact .inr ⟨b', f, a1, a2, a3, a4, hold b' _ (fun e' => by subst e'; have := h.L; rw [a5] at this; simp at this) a5⟩
  · have hbl := h.hbl
    refine ⟨h.out.os, h.out.tape, h.out.output, ?_, fun j hj ho => ?_⟩
    · simp [World.setCell]; omega
    · rw [hother j (by omega), Below.heap_alloc _ _ _ (by omega)]
      exact h.out.block j hj ho

/-- The counts are added. -/
theorem AD.count (h : AD w0 wr lo hi lo2 hi2 bl bo DL lc DO oc G GO) (c : Int) : AD w0 (wr.setCell ⟨bl, 54, none⟩ (.int .u64 c)) lo hi lo2 hi2 bl bo DL c DO oc G GO := by
  have hs := h.rows.size
  have hother : ∀ j, j ≠ bl → (wr.setCell ⟨bl, 54, none⟩ (.int .u64 c)).heap[j]? = wr.heap[j]? := fun j hj => heap_setCell_other _ _ _ _ hj
  refine ⟨?_, by rw [hother _ (fun e => h.hne e.symm)]; exact h.O, ⟨hs, fun r hr => ?_, h.rows.apart⟩, ⟨h.orow.size, fun r hr => ?_, h.orow.apart⟩, ?_, h.hbl, h.hbo, h.hne, h.hhi, h.hhi2, h.hap⟩
  · rw [heap_setCell_same _ _ _ _ _ _ h.L]
    congr 2
    apply Array.ext_getElem?
    intro j
    rw [Array.getElem?_setIfInBounds, Array.getElem?_push, Array.getElem?_push]
    simp only [Array.size_push]
    by_cases e : 54 = j
    · subst e
      rw [if_pos rfl, if_pos (by omega), if_pos (by omega)]
    · rw [if_neg e]
      by_cases e2 : j = DL.size
      · omega
      · rw [if_neg e2, if_neg e2]
  · rcases h.rows.row r hr with a0 | ⟨b', f, a1, a2, a3, a4⟩
    · exact .inl a0
    · exact .inr ⟨b', f, a1, a2, a3, by rw [hother b' (fun e' => by subst e'; have := h.L; rw [a4] at this; simp at this)]; exact a4⟩
  · rcases h.orow.row r hr with a0 | ⟨b', f, a1, a2, a3, a4, a5⟩
    · exact .inl a0
    · exact .inr ⟨b', f, a1, a2, a3, a4, by rw [hother b' (fun e' => by subst e'; have := h.L; rw [a5] at this; simp at this)]; exact a5⟩
  · have hbl := h.hbl
    exact ⟨h.out.os, h.out.tape, h.out.output, by simpa [World.setCell] using h.out.size, fun j hj ho => by rw [hother j (by omega)]; exact h.out.block j hj ho⟩

end
end Go.Proofs.Qxb6601538a
