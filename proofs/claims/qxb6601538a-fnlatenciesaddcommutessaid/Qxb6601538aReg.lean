/-
  The state inside a region that draws its order: two clones, an add, two variables made.
-/
import Derived.Test.Qxb6601538aTwo
namespace Go.Proofs.Qxb6601538a
open Go Go.RowKit
set_option linter.unusedVariables false
set_option linter.unusedSimpArgs false

/-- AHEAD OF THE ADD: which clones are made, which variables. -/
structure RG (w0 wv : World) (GX GY : Cont) (P3 P4 : Option (Nat × Nat × Array Value)) (z9 z11 : Option Nat) : Prop where
  bel : Below w0.heap.size w0 wv
  h3 : ∀ l u D, P3 = some (l, u, D) → w0.heap.size ≤ l ∧ u ≤ wv.heap.size ∧ Held wv l u D 54 GX ∧ (∀ q, z9 = some q → q < l ∨ u ≤ q) ∧ (∀ q, z11 = some q → q < l ∨ u ≤ q)
  h4 : ∀ l u D, P4 = some (l, u, D) → w0.heap.size ≤ l ∧ u ≤ wv.heap.size ∧ Held wv l u D 54 GY
  ap : ∀ l u D l' u' D', P3 = some (l, u, D) → P4 = some (l', u', D') → u ≤ l'
  f9 : ∀ q, z9 = some q → w0.heap.size ≤ q ∧ wv.heap[q]? = some (.cells Z35 35 (0, 0))
  f11 : ∀ q, z11 = some q → w0.heap.size ≤ q ∧ wv.heap[q]? = some (.cells Z35 35 (0, 0))
  ne : ∀ q q', z9 = some q → z11 = some q' → q ≠ q'

section
variable {w0 wv w' : World} {GX GY : Cont} {P3 P4 : Option (Nat × Nat × Array Value)} {z9 z11 : Option Nat}

theorem RG.start (h : Below w0.heap.size w0 wv) : RG w0 wv GX GY none none none none :=
  ⟨h, fun _ _ _ e => (by cases e), fun _ _ _ e => (by cases e), fun _ _ _ _ _ _ e => (by cases e), fun _ e => (by cases e), fun _ e => (by cases e), fun _ _ e => (by cases e)⟩

theorem RG.clone3 {D : Array Value} (h : RG w0 wv GX GY none none z9 z11) (hH : Held w' wv.heap.size w'.heap.size D 54 GX) (hb : Below wv.heap.size wv w') : RG w0 w' GX GY (some (wv.heap.size, w'.heap.size, D)) none z9 z11 :=
  ⟨h.bel.trans (hb.mono h.bel.size), fun l u D' e => (by
      cases e
      exact ⟨h.bel.size, Nat.le_refl _, hH, fun q hq => .inl (lt_of_block (h.f9 q hq).2), fun q hq => .inl (lt_of_block (h.f11 q hq).2)⟩),
    fun _ _ _ e => (by cases e), fun _ _ _ _ _ _ _ e => (by cases e),
    fun q hq => ⟨(h.f9 q hq).1, rd_below hb (h.f9 q hq).2 (lt_of_block (h.f9 q hq).2)⟩, fun q hq => ⟨(h.f11 q hq).1, rd_below hb (h.f11 q hq).2 (lt_of_block (h.f11 q hq).2)⟩, h.ne⟩

theorem RG.clone4 {l u : Nat} {D3 D : Array Value} (h : RG w0 wv GX GY (some (l, u, D3)) none z9 z11) (hH : Held w' wv.heap.size w'.heap.size D 54 GY) (hb : Below wv.heap.size wv w') : RG w0 w' GX GY (some (l, u, D3)) (some (wv.heap.size, w'.heap.size, D)) z9 z11 := by
  obtain ⟨a1, a2, a3, a4, a5⟩ := h.h3 l u D3 rfl
  exact ⟨h.bel.trans (hb.mono h.bel.size), fun l' u' D' e => (by
      cases e
      exact ⟨a1, Nat.le_trans a2 hb.size, a3.below hb a2, a4, a5⟩),
    fun l' u' D' e => (by cases e; exact ⟨h.bel.size, Nat.le_refl _, hH⟩), fun l1 u1 E1 l2 u2 E2 e1 e2 => (by cases e1; cases e2; exact a2),
    fun q hq => ⟨(h.f9 q hq).1, rd_below hb (h.f9 q hq).2 (lt_of_block (h.f9 q hq).2)⟩, fun q hq => ⟨(h.f11 q hq).1, rd_below hb (h.f11 q hq).2 (lt_of_block (h.f11 q hq).2)⟩, h.ne⟩

theorem below_alloc (w : World) (o : Obj) : Below w.heap.size w (w.alloc o) := (Below.refl _ _).alloc (Nat.le_refl _) _

theorem RG.alloc9 (h : RG w0 wv GX GY P3 P4 none z11) : RG w0 (wv.alloc (.cells Z35 35)) GX GY P3 P4 (some wv.heap.size) z11 := by
  have hb := below_alloc wv (.cells Z35 35)
  refine ⟨h.bel.trans (hb.mono h.bel.size), fun l u D e => ?_, fun l u D e => ?_, h.ap, fun q hq => ?_, fun q hq => ⟨(h.f11 q hq).1, rd_old (h.f11 q hq).2⟩, fun q q' e e' => ?_⟩
  · obtain ⟨a1, a2, a3, a4, a5⟩ := h.h3 l u D e
    exact ⟨a1, Nat.le_trans a2 hb.size, a3.below hb a2, fun q hq => by cases hq; exact .inr a2, a5⟩
  · obtain ⟨a1, a2, a3⟩ := h.h4 l u D e
    exact ⟨a1, Nat.le_trans a2 hb.size, a3.below hb a2⟩
  · cases hq; exact ⟨h.bel.size, rd_new rfl⟩
  · cases e; have := lt_of_block (h.f11 q' e').2; omega
theorem RG.alloc11 (h : RG w0 wv GX GY P3 P4 z9 none) : RG w0 (wv.alloc (.cells Z35 35)) GX GY P3 P4 z9 (some wv.heap.size) := by
  have hb := below_alloc wv (.cells Z35 35)
  refine ⟨h.bel.trans (hb.mono h.bel.size), fun l u D e => ?_, fun l u D e => ?_, h.ap, fun q hq => ⟨(h.f9 q hq).1, rd_old (h.f9 q hq).2⟩, fun q hq => ?_, fun q q' e e' => ?_⟩
  · obtain ⟨a1, a2, a3, a4, a5⟩ := h.h3 l u D e
    exact ⟨a1, Nat.le_trans a2 hb.size, a3.below hb a2, a4, fun q hq => by cases hq; exact .inr a2⟩
  · obtain ⟨a1, a2, a3⟩ := h.h4 l u D e
    exact ⟨a1, Nat.le_trans a2 hb.size, a3.below hb a2⟩
  · cases hq; exact ⟨h.bel.size, rd_new rfl⟩
  · cases e'; have := lt_of_block (h.f9 q e).2; omega

/-- BEHIND THE ADD. -/
structure RD (w0 wv : World) (GX GY : Cont) (DL : Array Value) (z9 z11 : Option Nat) : Prop where
  bel : Below w0.heap.size w0 wv
  rows : ∃ G', HeldP wv (fun _ => True) DL G' ∧ ∀ r, r < 54 → G' r = addRow (GX r) (GY r)
  f9 : ∀ q, z9 = some q → w0.heap.size ≤ q ∧ wv.heap[q]? = some (.cells Z35 35 (0, 0))
  f11 : ∀ q, z11 = some q → w0.heap.size ≤ q ∧ wv.heap[q]? = some (.cells Z35 35 (0, 0))
  ne : ∀ q q', z9 = some q → z11 = some q' → q ≠ q'

theorem RG.add {l u l' u' : Nat} {D3 D4 DL : Array Value} {G' : Cont} (h : RG w0 wv GX GY (some (l, u, D3)) (some (l', u', D4)) z9 z11) (hP : HeldP w' (Mine l u wv.heap.size) DL G') (hG : ∀ r, r < 54 → G' r = addRow (GX r) (GY r)) (hO : Out l u wv w') : RD w0 w' GX GY DL z9 z11 := by
  obtain ⟨a1, a2, a3, a4, a5⟩ := h.h3 l u D3 rfl
  exact ⟨h.bel.trans (hO.below a1 h.bel.size), ⟨G', hP.turn (fun _ _ => trivial) (fun _ _ _ => rfl), hG⟩, fun q hq => ⟨(h.f9 q hq).1, rd_out hO (h.f9 q hq).2 (a4 q hq)⟩, fun q hq => ⟨(h.f11 q hq).1, rd_out hO (h.f11 q hq).2 (a5 q hq)⟩, h.ne⟩
theorem RD.alloc9 {DL : Array Value} (h : RD w0 wv GX GY DL none z11) : RD w0 (wv.alloc (.cells Z35 35)) GX GY DL (some wv.heap.size) z11 := by
  have hb := below_alloc wv (.cells Z35 35)
  obtain ⟨G', hP, hG⟩ := h.rows
  refine ⟨h.bel.trans (hb.mono h.bel.size), ⟨G', hP.turn (fun _ _ => trivial) (fun b f hbk => hb.block b (lt_of_block hbk)), hG⟩, fun q hq => ?_, fun q hq => ⟨(h.f11 q hq).1, rd_old (h.f11 q hq).2⟩, fun q q' e e' => ?_⟩
  · cases hq; exact ⟨h.bel.size, rd_new rfl⟩
  · cases e; have := lt_of_block (h.f11 q' e').2; omega
theorem RD.alloc11 {DL : Array Value} (h : RD w0 wv GX GY DL z9 none) : RD w0 (wv.alloc (.cells Z35 35)) GX GY DL z9 (some wv.heap.size) := by
  have hb := below_alloc wv (.cells Z35 35)
  obtain ⟨G', hP, hG⟩ := h.rows
  refine ⟨h.bel.trans (hb.mono h.bel.size), ⟨G', hP.turn (fun _ _ => trivial) (fun b f hbk => hb.block b (lt_of_block hbk)), hG⟩, fun q hq => ⟨(h.f9 q hq).1, rd_old (h.f9 q hq).2⟩, fun q hq => ?_, fun q q' e e' => ?_⟩
  · cases hq; exact ⟨h.bel.size, rd_new rfl⟩
  · cases e'; have := lt_of_block (h.f9 q e).2; omega

/-- THE REGION IS DONE. -/
structure DN (w0 wv : World) (GX GY : Cont) (DL : Array Value) (q9 : Nat) : Prop where
  bel : Below w0.heap.size w0 wv
  rows : ∃ G', HeldP wv (fun _ => True) DL G' ∧ ∀ r, r < 54 → G' r = addRow (GX r) (GY r)
  blk : wv.heap[q9]? = some (.cells DL 35 (0, 0))
theorem RD.stored {DL D4 : Array Value} {q9 q11 : Nat} (h : RD w0 wv GX GY DL (some q9) (some q11)) : DN w0 ((wv.setRow q9 DL).setRow q11 D4) GX GY DL q9 := by
  obtain ⟨m9, k9⟩ := h.f9 q9 rfl
  obtain ⟨m11, k11⟩ := h.f11 q11 rfl
  have hne := h.ne q9 q11 rfl rfl
  obtain ⟨G', hP, hG⟩ := h.rows
  refine ⟨Below.setRow' (Below.setRow' h.bel m9 _) m11 _, ⟨G', hP.turn (fun _ _ => trivial) (fun b f hb => ?_), hG⟩, rd_other hne (rd_same k9)⟩
  have n9 : b ≠ q9 := fun e => by subst e; rw [hb] at k9; simp at k9
  have n11 : b ≠ q11 := fun e => by subst e; rw [hb] at k11; simp at k11
  rw [setRow_other _ _ _ _ n11, setRow_other _ _ _ _ n9]
theorem RD.second {DL : Array Value} {q9 q11 : Nat} (h : RD w0 wv GX GY DL (some q9) (some q11)) : (wv.setRow q9 DL).heap[q11]? = some (.cells Z35 35 (0, 0)) :=
  rd_other (h.ne q9 q11 rfl rfl).symm (h.f11 q11 rfl).2
end

theorem wpAnyH_listed {P : Program} {md : Region.Mode} {ops : Array Oper} {Q : Exit → Act → World → Prop} {S : World → Prop} {n : Nat} {l l' : Array Bool} {a : Act} {w : World} (e : l = l') (h : wpAnyH P md ops Q S n l' a w) : wpAnyH P md ops Q S n l a w := e ▸ h
theorem region_named {P : Program} {id : Nat} {ops : Array Oper} {b : Bool} {Q : Exit → Act → World → Prop} {a : Act} {w : World} (h : ∀ ops', ops' = ops → (Code.region id ops' b).wp P Q a w) : (Code.region id ops b).wp P Q a w := h ops rfl

end Go.Proofs.Qxb6601538a
