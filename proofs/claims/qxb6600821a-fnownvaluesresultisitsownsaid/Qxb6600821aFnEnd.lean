/-
  FnEndMatchesCaseTable (5): the walk.
-/
import Derived.Test.Qxb6600821aZZEnd
namespace Go.Proofs.Qxb6600821a
open Go Go.RowKit
set_option linter.unusedVariables false
set_option linter.unusedSimpArgs false

theorem ownsRow_below {B base : Nat} {w w' : World} {e : TypeId} {size : Nat} {v : Value} {n : Nat} {xs : List Value} (h : w.ownsRow base e size v n xs) (hb : Below B w w') (hlt : ∀ k, v.ownBlock = some k → k < B) : w'.ownsRow base e size v n xs := by
  refine ⟨h.1, ?_⟩
  rcases h.2 with h2 | ⟨g, cap, cur, rfl, hg, hh, r⟩
  · exact .inl h2
  · exact .inr ⟨g, cap, cur, rfl, hg, by rw [hb.block g (hlt g rfl)]; exact hh, r⟩

theorem src_own {base : Nat} {w : World} {v : Value} {n : Nat} {xs : List Value} (h : w.ownsRow base 5 1 v n xs) (h1 : ∀ u ∈ xs, u.oneCell' = true) : Src Try.prog 1 29 v n xs w := by
  rcases h.2 with ⟨rfl, rfl⟩ | ⟨g, cap, cur, rfl, hg, hh, r⟩
  · have hx : xs = [] := List.eq_nil_of_length_eq_zero (by simpa using h.1)
    subst hx
    exact Src.ofNil w Try.underlying29 0
  · exact Src.ofSlice w Try.underlying29 _ n cap xs h.1 (h.cells (g := g) rfl) h1

theorem rowB_one (f : Nat → Int) (n : Nat) : ∀ u ∈ rowOf (fun j => .int .u8 (f j)) n, u.oneCell' = true := by
  intro u hu
  simp only [rowOf, List.mem_map] at hu
  obtain ⟨_, _, rfl⟩ := hu
  rfl

theorem cloneBytes_any (ao : Option Addr) (n cap : Nat) (f : Nat → Int) (w : World) (hn : n ≤ 1048576) (hnil : ao = none → n = 0 ∧ cap = 0) (hs : SeenB w ao n f) :
    Calls Try.prog 19 #[.slice ao n cap] w fun e w' => ∃ bo bc, e = .returned (.slice bo n bc) ∧ w'.ownsRow w.heap.size 5 1 (.slice bo n bc) n (rowOf (fun j => .int .u8 (f j)) n) ∧ w.grownBy w' none := by
  cases ao with
  | none =>
    obtain ⟨rfl, rfl⟩ := hnil rfl
    refine (cloneBytes_nil w).mono ?_
    rintro e w' ⟨rfl, rfl⟩
    exact ⟨none, 0, rfl, World.ownsRow_nil _ _ _ _, grownBy_refl _ _⟩
  | some a =>
    refine (cloneBytes_some a n cap f w hn hs).mono ?_
    rintro e w' ⟨rfl, h1, h2⟩
    exact ⟨_, _, rfl, h1, h2⟩

theorem seenS_of {w : World} {n : Nat} {ss : Nat → ByteArray} {g : Nat} (h : ∀ j, j < n → w.cell? ⟨g, j, none⟩ = some (.string (ss j))) : SeenS w (some ⟨g, 0, none⟩) n ss := fun _ => ⟨g, 0, rfl, fun j hj => by rw [Nat.zero_add]; exact h j hj⟩

theorem cells_of_own {base n : Nat} {w : World} {g c : Nat} {ss : Nat → ByteArray} (h : w.ownsRow base 9 1 (.slice (some ⟨g, 0, none⟩) n c) n (rowOf (fun j => .string (ss j)) n)) : ∀ j, j < n → w.cell? ⟨g, j, none⟩ = some (.string (ss j)) := fun j hj => by
  rw [h.cellAt j (by omega), rowOf_get _ _ _ hj]

/-- THE STATE behind the three clones. -/
structure Cl (w w3 : World) (bo : Option Addr) (bc nb n B1 B2 : Nat) (f : Nat → Int) (ss : Nat → ByteArray) : Prop where
  own : w3.ownsRow w.heap.size 5 1 (.slice bo nb bc) nb (rowOf (fun j => .int .u8 (f j)) nb)
  lt : ∀ k, (Value.slice bo nb bc).ownBlock = some k → k < B1
  co : ∀ j, j < n → w3.cell? ⟨B1, j, none⟩ = some (.string (ss j))
  ck : ∀ j, j < n → w3.cell? ⟨B2, j, none⟩ = some (.string (ss j))
  gr : w.grownBy w3 none
  b1 : w.heap.size ≤ B1
  b12 : B1 ≤ B2
  b2 : B2 < w3.heap.size

theorem Cl.mk' {w w1 w2 w3 : World} {bo : Option Addr} {bc nb n : Nat} {f : Nat → Int} {ss : Nat → ByteArray} (hn : 0 < n) (h1 : w1.ownsRow w.heap.size 5 1 (.slice bo nb bc) nb (rowOf (fun j => .int .u8 (f j)) nb)) (g1 : w.grownBy w1 none)
    (h2 : w2.ownsRow w1.heap.size 9 1 (.slice (some ⟨w1.heap.size, 0, none⟩) n n) n (rowOf (fun j => .string (ss j)) n)) (g2 : w1.grownBy w2 none)
    (h3 : w3.ownsRow w2.heap.size 9 1 (.slice (some ⟨w2.heap.size, 0, none⟩) n n) n (rowOf (fun j => .string (ss j)) n)) (g3 : w2.grownBy w3 none) : Cl w w3 bo bc nb n w1.heap.size w2.heap.size f ss := by
  have hn0 : ∀ (x : Option Nat), (x = none ∨ x ≠ none) := fun x => by cases x <;> simp
  refine ⟨((h1.kept g2 (hn0 _)).kept g3 (hn0 _)), fun k hk => (h1.lt k hk).2, fun j hj => g3.cell (cells_of_own h2 j hj) (by simp), cells_of_own h3, ?_, g1.size, g2.size, ?_⟩
  · exact grownBy_trans (grownBy_trans g1 g2 (.inl rfl)) g3 (.inl rfl)
  · exact (h3.lt w2.heap.size rfl).2

theorem kept_none {w w' : World} {base : Nat} {e : TypeId} {size : Nat} {v : Value} {n : Nat} {xs : List Value} (h : w.ownsRow base e size v n xs) (g : w.grownBy w' none) : w'.ownsRow base e size v n xs :=
  h.kept g (by cases v.ownBlock <;> simp)

theorem one2 {a b : Int} : ∀ u ∈ [Value.int .u8 a, .int .u8 b], u.oneCell' = true := fun u hu => by
  simp at hu
  rcases hu with rfl | rfl <;> rfl
theorem one3 {a b c : Int} : ∀ u ∈ [Value.int .u8 a, .int .u8 b, .int .u8 c], u.oneCell' = true := fun u hu => by
  simp at hu
  rcases hu with rfl | rfl | rfl <;> rfl

/-- THE SECOND STATE: 'want' under way: v5, in the blocks from B3 on. -/
structure Wt (w3 : World) (B3 : Nat) (w5 : World) (v5 : Value) (m : Nat) (xs : List Value) : Prop where
  own : w5.ownsRow B3 5 1 v5 m xs
  be : Below B3 w3 w5
  b3 : B3 = w3.heap.size

theorem Wt.grow {w3 w5 w6 : World} {B3 : Nat} {v5 v6 : Value} {m m' : Nat} {xs xs' : List Value} (h : Wt w3 B3 w5 v5 m xs) (hown : w6.ownsRow B3 5 1 v6 m' xs') (hg : w5.grownBy w6 v5.ownBlock) : Wt w3 B3 w6 v6 m' xs' :=
  ⟨hown, h.be.grown hg (by have := h.be.size; have := h.b3; omega) (fun k hk => (h.own.lt k hk).1), h.b3⟩
theorem Wt.growA {w3 w5 w6 : World} {o : Obj} {B3 : Nat} {v5 v6 : Value} {m m' : Nat} {xs xs' : List Value} (h : Wt w3 B3 w5 v5 m xs) (hown : w6.ownsRow B3 5 1 v6 m' xs') (hg : (w5.alloc o).grownBy w6 v5.ownBlock) : Wt w3 B3 w6 v6 m' xs' :=
  h.grow hown (grownBy_trans (World.grownBy_alloc w5 o v5.ownBlock) hg (.inl rfl))
theorem Wt.baseLe {w3 w5 : World} {B3 : Nat} {v5 : Value} {m : Nat} {xs : List Value} (h : Wt w3 B3 w5 v5 m xs) : B3 ≤ w5.heap.size := by have := h.be.size; have := h.b3; omega

/-- What the clones hold is still there. -/
theorem Wt.cl {w w3 w5 : World} {B3 : Nat} {v5 : Value} {m : Nat} {xs : List Value} {bo : Option Addr} {bc nb n B1 B2 : Nat} {f : Nat → Int} {ss : Nat → ByteArray} (h : Wt w3 B3 w5 v5 m xs) (hC : Cl w w3 bo bc nb n B1 B2 f ss) :
    w5.ownsRow w.heap.size 5 1 (.slice bo nb bc) nb (rowOf (fun j => .int .u8 (f j)) nb) ∧ (∀ j, j < n → w5.cell? ⟨B1, j, none⟩ = some (.string (ss j))) ∧ (∀ j, j < n → w5.cell? ⟨B2, j, none⟩ = some (.string (ss j))) := by
  have h1 := h.b3
  have h2 := hC.b1
  have h3 := hC.b12
  have h4 := hC.b2
  refine ⟨ownsRow_below hC.own h.be (fun k hk => by have := hC.lt k hk; omega), fun j hj => ?_, fun j hj => ?_⟩
  · rw [h.be.cell (by simp; omega)]; exact hC.co j hj
  · rw [h.be.cell (by simp; omega)]; exact hC.ck j hj

/-- THE LAST STATE: behind ZZEnd. -/
structure Zz (w w7 : World) (v7 wv : Value) (B3 n B1 B2 m : Nat) (ss : Nat → ByteArray) (xs : List Value) : Prop where
  own : w7.ownsRow w.heap.size 5 1 v7 m xs
  want : w7.ownsRow B3 5 1 wv m xs
  co : ∀ j, j < n → w7.cell? ⟨B1, j, none⟩ = some (.string (ss j))
  ck : ∀ j, j < n → w7.cell? ⟨B2, j, none⟩ = some (.string (ss j))
  be : Below w.heap.size w w7

theorem Zz.mk' {w w3 w5 w7 : World} {B3 : Nat} {v5 v7 : Value} {m : Nat} {xs : List Value} {bo : Option Addr} {bc nb n B1 B2 : Nat} {f : Nat → Int} {ss : Nat → ByteArray} (h : Wt w3 B3 w5 v5 m xs) (hC : Cl w w3 bo bc nb n B1 B2 f ss)
    (hown : w7.ownsRow w.heap.size 5 1 v7 m xs) (hg : w5.grownBy w7 (Value.slice bo nb bc).ownBlock) : Zz w w7 v7 v5 B3 n B1 B2 m ss xs := by
  have h1 := h.b3
  have h2 := hC.b1
  have h3 := hC.b12
  have h4 := hC.b2
  have h5 := h.be.size
  obtain ⟨c1, c2, c3⟩ := h.cl hC
  have hne : ∀ k, B1 ≤ k → some k ≠ (Value.slice bo nb bc).ownBlock := fun k hk e => by have := hC.lt k e.symm; omega
  refine ⟨hown, ?_, fun j hj => hg.cell (c2 j hj) (hne _ (Nat.le_refl _)), fun j hj => hg.cell (c3 j hj) (hne _ h3), ?_⟩
  · refine h.own.kept hg ?_
    rcases hv : v5.ownBlock with _ | k
    · exact .inl rfl
    · refine .inr (hne k ?_)
      have := (h.own.lt k hv).1
      omega
  · refine ((below_of_grownBy hC.gr (Nat.le_refl _) (fun k hk => by cases hk)).trans (h.be.mono (by omega))).grown hg (by omega) (fun k hk => (hC.own.lt k hk).1)

/-- Bytes all. -/
def AllB (xs : List Value) : Prop := ∀ u ∈ xs, ∃ z : Int, u = .int .u8 z
theorem AllB.row (f : Nat → Int) (n : Nat) : AllB (rowOf (fun j => .int .u8 (f j)) n) := fun u hu => by
  simp only [rowOf, List.mem_map] at hu
  obtain ⟨j, _, rfl⟩ := hu
  exact ⟨_, rfl⟩
theorem AllB.append {xs ys : List Value} (h : AllB xs) (k : AllB ys) : AllB (xs ++ ys) := fun u hu => by
  rcases List.mem_append.1 hu with hu | hu
  · exact h u hu
  · exact k u hu
theorem AllB.replicate (n : Nat) (z : Int) : AllB (List.replicate n (.int .u8 z)) := fun u hu => by
  rw [List.mem_replicate] at hu
  exact ⟨z, hu.2⟩
theorem AllB.cells (s : ByteArray) : AllB (byteCells s) := fun u hu => by
  obtain ⟨b, _, rfl⟩ := List.mem_map.1 hu
  exact ⟨_, rfl⟩
theorem AllB.two (a b : Int) : AllB [.int .u8 a, .int .u8 b] := fun u hu => by
  simp at hu
  rcases hu with rfl | rfl <;> exact ⟨_, rfl⟩
theorem AllB.three (a b c : Int) : AllB [.int .u8 a, .int .u8 b, .int .u8 c] := fun u hu => by
  simp at hu
  rcases hu with rfl | rfl | rfl <;> exact ⟨_, rfl⟩
theorem AllB.plain (dep : Int) (p : Nat) (nm : ByteArray) : AllB (plainBytes dep p nm) := (AllB.replicate _ _).append ((AllB.two _ _).append ((AllB.cells _).append (AllB.two _ _)))

/-- Two rows that hold the same bytes. -/
theorem Zz.equal {w w7 : World} {v7 wv : Value} {B3 n B1 B2 m : Nat} {ss : Nat → ByteArray} {xs : List Value} (h : Zz w w7 v7 wv B3 n B1 B2 m ss xs) (hm : 0 < m) (hm1 : m ≤ 9223372036854775807) (hx : AllB xs) (q : Nat) :
    Calls Try.prog 23 #[v7, wv] (w7.drewN q) fun e w' => e = .returned (.bool true) ∧ Below w.heap.size w w' := by
  obtain ⟨g1, c1, rfl, _, _⟩ := h.own.form hm
  obtain ⟨g2, c2, rfl, _, _⟩ := h.want.form hm
  have hl : xs.length = m := by simpa using h.own.1
  subst hl
  have hf : ∀ j, ∃ z : Int, j < xs.length → xs[j]? = some (.int .u8 z) := fun j => by
    by_cases hj : j < xs.length
    · obtain ⟨z, hz⟩ := hx _ (List.getElem_mem hj)
      exact ⟨z, fun _ => by rw [List.getElem?_eq_getElem hj, hz]⟩
    · exact ⟨0, fun h => absurd h hj⟩
  have hf' := fun j => Classical.choose_spec (hf j)
  refine (bytesEqual_any g1 g2 c1 c2 xs (w7.drewN q) (fun j => Classical.choose (hf j)) hm1 (fun j hj => ?_) (fun j hj => ?_)).mono ?_
  · exact (h.own.cellAt j (by omega)).trans (hf' j hj)
  · exact (h.want.cellAt j (by omega)).trans (hf' j hj)
  · rintro e w' ⟨rfl, q', rfl⟩
    exact ⟨rfl, ⟨h.be.os, h.be.tape, h.be.output, h.be.size, h.be.block⟩⟩

end Go.Proofs.Qxb6600821a
