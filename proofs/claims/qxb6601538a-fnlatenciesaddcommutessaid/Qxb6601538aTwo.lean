/-
  The two laws' shared state: two arrays of rows, cloned into boxes.
-/
import Derived.Test.Qxb6601538aZZAdd
import Derived.Test.Qxb6601538aClone
import Derived.Test.Qxb6601538aSame
namespace Go.Proofs.Qxb6601538a
open Go Go.RowKit
set_option linter.unusedVariables false
set_option linter.unusedSimpArgs false

theorem Out.setRow {w : World} (b : Nat) (C : Array Value) : Out b (b + 1) w (w.setRow b C) :=
  ⟨rfl, rfl, rfl, by simp [World.setRow], fun k _ ho => setRow_other _ _ _ _ (by omega)⟩
theorem rd_out {lo hi : Nat} {w w' : World} (h : Out lo hi w w') {k : Nat} {v : Obj} (hk : w.heap[k]? = some v) (hap : k < lo ∨ hi ≤ k) : w'.heap[k]? = some v := (h.block k (lt_of_block hk) hap).trans hk
theorem rd_below {B : Nat} {w w' : World} (h : Below B w w') {k : Nat} {v : Obj} (hk : w.heap[k]? = some v) (hap : k < B) : w'.heap[k]? = some v := (h.block k hap).trans hk

/-- THE STATE behind the two first clones. -/
structure Two (w wr : World) (a b : Nat) (D1 D2 : Array Value) (G1 G2 : Cont) (lo hi : Nat) : Prop where
  A : wr.heap[a]? = some (.cells D1 35 (0, 0))
  B : wr.heap[b]? = some (.cells D2 35 (0, 0))
  H1 : Held wr lo hi D1 54 G1
  H2 : Held wr lo hi D2 54 G2
  be : Below w.heap.size w wr
  ha : a < lo
  hb : b < lo
  h0 : w.heap.size ≤ lo
  hlh : lo ≤ hi
  hs : hi ≤ wr.heap.size

theorem Two.out {w wr wr' : World} {a b : Nat} {D1 D2 : Array Value} {G1 G2 : Cont} {lo hi lo' hi' : Nat} (h : Two w wr a b D1 D2 G1 G2 lo hi) (ho : Out lo' hi' wr wr') (hl : hi ≤ lo') : Two w wr' a b D1 D2 G1 G2 lo hi := by
  have h1 := h.ha
  have h2 := h.hb
  have h3 := h.h0
  have h4 := h.hlh
  have h5 := h.hs
  have h6 := h.be.size
  exact ⟨rd_out ho h.A (by omega), rd_out ho h.B (by omega), h.H1.out ho (by omega), h.H2.out ho (by omega), h.be.trans (ho.below (by omega) h6), h1, h2, h3, h4, Nat.le_trans h5 ho.size⟩
theorem Two.below {w wr wr' : World} {a b : Nat} {D1 D2 : Array Value} {G1 G2 : Cont} {lo hi : Nat} (h : Two w wr a b D1 D2 G1 G2 lo hi) (ho : Below wr.heap.size wr wr') : Two w wr' a b D1 D2 G1 G2 lo hi := h.out (lo' := hi) (hi' := hi) (Out.of_below ho) (Nat.le_refl _)

theorem Two.start {w w1 w2 : World} {C1 C2 D1 D2 : Array Value} {G1 G2 : Cont} (hs1 : C1.size = 54) (hs2 : C2.size = 54)
    (hH1 : Held w1 ((w.alloc (.cells C1 35)).alloc (.cells C2 35)).heap.size w1.heap.size D1 54 G1) (hb1 : Below ((w.alloc (.cells C1 35)).alloc (.cells C2 35)).heap.size ((w.alloc (.cells C1 35)).alloc (.cells C2 35)) w1)
    (hH2 : Held w2 (w1.setRow w.heap.size D1).heap.size w2.heap.size D2 54 G2) (hb2 : Below (w1.setRow w.heap.size D1).heap.size (w1.setRow w.heap.size D1) w2) :
    Two w (w2.setRow (w.heap.size + 1) D2) w.heap.size (w.heap.size + 1) D1 D2 G1 G2 (w.heap.size + 2) w2.heap.size := by
  have e0 : ((w.alloc (.cells C1 35)).alloc (.cells C2 35)).heap.size = w.heap.size + 2 := by simp
  have e1 : (w1.setRow w.heap.size D1).heap.size = w1.heap.size := by simp [World.setRow]
  have e2 : (w2.setRow (w.heap.size + 1) D2).heap.size = w2.heap.size := by simp [World.setRow]
  rw [e0] at hH1 hb1
  rw [e1] at hH2 hb2
  have l1 := hb1.size
  have l2 := hb2.size
  rw [e0] at l1
  rw [e1] at l2
  have a1 : w1.heap[w.heap.size]? = some (.cells C1 35 (0, 0)) := rd_below hb1 (rd_old (rd_new rfl)) (by omega)
  have b1 : w1.heap[w.heap.size + 1]? = some (.cells C2 35 (0, 0)) := rd_below hb1 (rd_new (by simp)) (by omega)
  have a2 : w2.heap[w.heap.size]? = some (.cells D1 35 (0, 0)) := rd_below hb2 (rd_same a1) (by omega)
  have b2 : w2.heap[w.heap.size + 1]? = some (.cells C2 35 (0, 0)) := rd_below hb2 (rd_other (by omega) b1) (by omega)
  refine ⟨rd_other (by omega) a2, rd_same b2, ?_, ?_, ?_, by omega, by omega, by omega, by omega, by omega⟩
  · refine Held.out ?_ (Out.setRow (w.heap.size + 1) D2) (.inr (Nat.le_refl _))
    refine Held.wider (Held.below ?_ hb2 (Nat.le_refl _)) (Nat.le_refl _) (by omega)
    exact hH1.out (Out.setRow w.heap.size D1) (.inr (by omega))
  · exact (hH2.out (Out.setRow (w.heap.size + 1) D2) (.inr (by omega))).wider (by omega) (Nat.le_refl _)
  · have h1 : Below w.heap.size w w1 := (((Below.refl _ _).alloc (Nat.le_refl _) _).alloc (by simp) _).trans (hb1.mono (by omega))
    have h2 : Below w.heap.size w w2 := (Below.setRow' h1 (Nat.le_refl _) D1).trans (hb2.mono (by omega))
    exact Below.setRow' h2 (by omega) _

end Go.Proofs.Qxb6601538a
