/-
  LATENCIES IN MEMORY: an array of 54 pointers, each nil or to an array of 1024 counts; whole arrays loaded and stored by one law.
-/
import Derived.Test.Qxb6601538aRows
import Derived.WalkKit
import Derived.Deep.MidRow
import Derived.Deep.QuietTactic
import Derived.BigQuiet
namespace Go.Proofs.Qxb6601538a
open Go Go.RowKit
set_option linter.unusedVariables false
set_option linter.unusedSimpArgs false

/-! ### whole arrays, over any program -/
section
variable {P : Program} {w : World}
theorem wpList_load_row {ops : Array Oper} {rest : List Oper} {op : Oper} {a : Act} {Q : Exit → Act → World → Prop} (hgd : op.guard = none) (ty : TypeId) (x : Operand) (ho : op.op = .load ty x)
    (b : Nat) (hx : a.eval x = .pointer (some ⟨b, 0, none⟩)) (C : Array Value) (t : TypeId) (hb : w.heap[b]? = some (.cells C t (0, 0))) (n : Nat) (e : TypeId) (hu : P.underlying ty = some (.array n e))
    (hi : (P.info? ty).map (·.size) = some n) (hC : C.size = n) (h : wpList P ops Q rest (a.put op.dst (.agg C)) w) : wpList P ops Q (op :: rest) a w :=
  wpList_plain hgd fun _ hK => by
    have hr := run_loadVar_row (P := P) w b t ty C (0, 0) _ hb hu rfl (by rw [hC]; exact hi)
    unfold Oper.wp execOp
    simp only [ho, hx, Instr.loadAt, Instr.sureAddr, Sem.run_bind, Sem.run_pure, Result.andThen_ok, hr]
    exact hK _ _ h
theorem wpList_store_row {ops : Array Oper} {rest : List Oper} {op : Oper} {a : Act} {Q : Exit → Act → World → Prop} (hgd : op.guard = none) (ty : TypeId) (x y : Operand) (ho : op.op = .store ty x y)
    (b : Nat) (C C' : Array Value) (hx : a.eval x = .pointer (some ⟨b, 0, none⟩)) (hy : a.eval y = .agg C') (t : TypeId) (hb : w.heap[b]? = some (.cells C t (0, 0))) (n : Nat)
    (hi : (P.info? ty).map (·.size) = some n) (hC : C.size = n) (hC' : C'.size = n) (h1 : C'.all (·.oneCell') = true) (h : wpList P ops Q rest (a.put op.dst undef) (w.setRow b C')) : wpList P ops Q (op :: rest) a w :=
  wpList_plain hgd fun _ hK => by
    have hr := run_storeVar_row (P := P) w b t ty C C' hb (by rw [hC']; exact hi) (by omega) h1
    unfold Oper.wp execOp
    simp only [ho, hx, hy, Instr.storeAt, Instr.sureAddr, Sem.run_bind, Sem.run_pure, Result.andThen_ok, hr]
    exact hK _ _ h
end

/-- One result that lies in memory. -/
theorem results_cell {P : Program} {fn : Func} {p : Tmp} {ty : TypeId} (h : fn.results = #[.cell p ty]) (tmps : Array Value) (w : World) (a : Addr) (v : Value) (hp : tmps.getD p undef = .pointer (some a)) (hr : (loadVar ty a).run P w = .ok v w) :
    (results fn tmps).run P w = .ok v w := by
  have hp' : tmps[p]?.getD undef = .pointer (some a) := by rw [← hp, Array.getD_eq_getD_getElem?]
  simp [results, h, hp', hr, asAddr]

/-! ### this program's two array types -/
theorem size35 : (Try.prog.info? 35).map (·.size) = some 54 := by kernel_rfl
def Z48 : Array Value := Array.replicate 1024 (.int .u64 0)
theorem Z48_size : Z48.size = 1024 := by simp [Z48]
theorem Z48_get (j : Nat) (h : j < 1024) : Z48[j]? = some (.int .u64 0) := by simp [Z48, h]
theorem zero48 (w : World) : (zeroValue 48).run Try.prog w = .ok (.agg Z48) w := by
  have h : (Try.prog.info? 48).map (fun i => i.zero) = some (some (.agg Z48)) := by kernel_rfl
  obtain ⟨i, hi, hz⟩ := Option.map_eq_some_iff.1 h
  simp [zeroValue, typeInfo, hi, hz]

/-! ### the counts -/
/-- A row's cells. -/
def rowArr (h : Nat → Int) : Array Value := ((List.range 1024).map fun c => Value.int .u64 (h c)).toArray
theorem rowArr_size (h : Nat → Int) : (rowArr h).size = 1024 := by simp [rowArr]
theorem rowArr_get (h : Nat → Int) (c : Nat) (hc : c < 1024) : (rowArr h)[c]? = some (.int .u64 (h c)) := by simp [rowArr, hc]
theorem rowArr_eq {h : Nat → Int} {R : Array Value} (hs : R.size = 1024) (hg : ∀ c, c < 1024 → R[c]? = some (.int .u64 (h c))) : R = rowArr h := by
  apply Array.ext_getElem?
  intro j
  by_cases hj : j < 1024
  · rw [hg j hj, rowArr_get h j hj]
  · rw [Array.getElem?_eq_none (by omega), Array.getElem?_eq_none (by rw [rowArr_size]; omega)]
theorem rowArr_congr {h h' : Nat → Int} (e : ∀ c, c < 1024 → h c = h' c) : rowArr h = rowArr h' :=
  rowArr_eq (rowArr_size h) (fun c hc => by rw [rowArr_get h c hc, e c hc])

/-- The content of an array of rows: a row is absent, or holds counts. -/
def Cont := Nat → Option (Nat → Int)
/-- Every count fits. -/
def Cont.fits (G : Cont) : Prop := ∀ r, r < 54 → ∀ h, G r = some h → ∀ c, c < 1024 → 0 ≤ h c ∧ h c < 18446744073709551616

/-- THE ROWS AS THEY ARE SEEN: nil, or 1024 cells in a row, wherever. -/
structure SeenR (w : World) (C : Array Value) (G : Cont) : Prop where
  size : C.size = 54
  row : ∀ r, r < 54 → (C[r]? = some (.pointer none) ∧ G r = none) ∨ ∃ b o h, C[r]? = some (.pointer (some ⟨b, o, none⟩)) ∧ G r = some h ∧ ∀ c, c < 1024 → w.cell? ⟨b, o + c, none⟩ = some (.int .u64 (h c))

/-- THE FIRST k ROWS, EACH A BLOCK OF ITS OWN between lo and hi. -/
structure Held (w : World) (lo hi : Nat) (D : Array Value) (k : Nat) (G : Cont) : Prop where
  size : D.size = 54
  row : ∀ r, r < k → (D[r]? = some (.pointer none) ∧ G r = none) ∨ ∃ b h, D[r]? = some (.pointer (some ⟨b, 0, none⟩)) ∧ G r = some h ∧ lo ≤ b ∧ b < hi ∧ w.heap[b]? = some (.cells (rowArr h) 48 (0, 0))
  apart : ∀ r s b, r < s → s < k → D[r]? = some (.pointer (some ⟨b, 0, none⟩)) → D[s]? = some (.pointer (some ⟨b, 0, none⟩)) → False

theorem Held.seen {w : World} {lo hi : Nat} {D : Array Value} {G : Cont} (h : Held w lo hi D 54 G) : SeenR w D G :=
  ⟨h.size, fun r hr => by
    rcases h.row r hr with h0 | ⟨b, f, h1, h2, _, _, h5⟩
    · exact .inl h0
    · exact .inr ⟨b, 0, f, h1, h2, fun c hc => by rw [Nat.zero_add, cell_of_row w b c _ 48 (0, 0) h5, rowArr_get f c hc]⟩⟩
theorem Held.oneCell {w : World} {lo hi : Nat} {D : Array Value} {G : Cont} (h : Held w lo hi D 54 G) : D.all (·.oneCell') = true := by
  rw [Array.all_eq_true_iff_forall_mem]
  intro v hv
  obtain ⟨r, hr, rfl⟩ := Array.mem_iff_getElem.1 hv
  have hs := h.size
  rcases h.row r (by omega) with h0 | ⟨b, f, h1, _⟩
  · rw [Array.getElem?_eq_getElem hr] at h0
    rw [Option.some.inj h0.1]; rfl
  · rw [Array.getElem?_eq_getElem hr] at h1
    rw [Option.some.inj h1]; rfl

/-- Nothing has turned but blocks between lo and hi, and new ones. -/
structure Out (lo hi : Nat) (w w' : World) : Prop where
  os : w'.os = w.os
  tape : w'.tape = w.tape
  output : w'.output = w.output
  size : w.heap.size ≤ w'.heap.size
  block : ∀ k, k < w.heap.size → k < lo ∨ hi ≤ k → w'.heap[k]? = w.heap[k]?
theorem Out.refl (lo hi : Nat) (w : World) : Out lo hi w w := ⟨rfl, rfl, rfl, Nat.le_refl _, fun _ _ _ => rfl⟩
theorem Out.trans {lo hi : Nat} {a b c : World} (h : Out lo hi a b) (k : Out lo hi b c) : Out lo hi a c :=
  ⟨k.os.trans h.os, k.tape.trans h.tape, k.output.trans h.output, Nat.le_trans h.size k.size, fun i hi' ho => (k.block i (by have := h.size; omega) ho).trans (h.block i hi' ho)⟩
theorem Out.of_below {lo hi : Nat} {w w' : World} (h : Below w.heap.size w w') : Out lo hi w w' := ⟨h.os, h.tape, h.output, h.size, fun k hk _ => h.block k hk⟩
theorem Out.below {lo hi B : Nat} {w w' : World} (h : Out lo hi w w') (hB : B ≤ lo) (hw : B ≤ w.heap.size) : Below B w w' := ⟨h.os, h.tape, h.output, h.size, fun k hk => h.block k (by omega) (.inl (by omega))⟩
theorem Out.drewN {lo hi : Nat} {w w' : World} (h : Out lo hi w w') (q : Nat) : Out lo hi w (w'.drewN q) := ⟨h.os, h.tape, h.output, h.size, h.block⟩
theorem Out.setCell {lo hi : Nat} {w : World} {p : Addr} (h : lo ≤ p.block) (h2 : p.block < hi) (u : Value) : Out lo hi w (w.setCell p u) :=
  ⟨rfl, rfl, rfl, by simp [World.setCell], fun k _ ho => Below.heap_setCell _ _ _ _ (by omega)⟩

theorem Held.out {w w' : World} {lo hi lo' hi' : Nat} {D : Array Value} {k : Nat} {G : Cont} (h : Held w lo hi D k G) (ho : Out lo' hi' w w') (hap : hi ≤ lo' ∨ hi' ≤ lo) : Held w' lo hi D k G :=
  ⟨h.size, fun r hr => by
    rcases h.row r hr with h0 | ⟨b, f, h1, h2, h3, h4, h5⟩
    · exact .inl h0
    · exact .inr ⟨b, f, h1, h2, h3, h4, by rw [ho.block b (lt_of_block h5) (by omega)]; exact h5⟩, h.apart⟩
theorem Held.below {w w' : World} {lo hi : Nat} {D : Array Value} {k : Nat} {G : Cont} (h : Held w lo hi D k G) {B : Nat} (hb : Below B w w') (hB : hi ≤ B) : Held w' lo hi D k G :=
  ⟨h.size, fun r hr => by
    rcases h.row r hr with h0 | ⟨b, f, h1, h2, h3, h4, h5⟩
    · exact .inl h0
    · exact .inr ⟨b, f, h1, h2, h3, h4, by rw [hb.block b (by omega)]; exact h5⟩, h.apart⟩
theorem Held.wider {w : World} {lo hi lo' hi' : Nat} {D : Array Value} {k : Nat} {G : Cont} (h : Held w lo hi D k G) (h1 : lo' ≤ lo) (h2 : hi ≤ hi') : Held w lo' hi' D k G :=
  ⟨h.size, fun r hr => by
    rcases h.row r hr with h0 | ⟨b, f, a1, a2, a3, a4, a5⟩
    · exact .inl h0
    · exact .inr ⟨b, f, a1, a2, by omega, by omega, a5⟩, h.apart⟩
theorem SeenR.below {w w' : World} {C : Array Value} {G : Cont} (h : SeenR w C G) {B : Nat} (hb : Below B w w') (hB : w.heap.size ≤ B) : SeenR w' C G :=
  ⟨h.size, fun r hr => by
    rcases h.row r hr with h0 | ⟨b, o, f, h1, h2, h3⟩
    · exact .inl h0
    · exact .inr ⟨b, o, f, h1, h2, fun c hc => by rw [hb.cell (Nat.lt_of_lt_of_le (World.block_lt_of_cell? w _ (h3 c hc)) hB)]; exact h3 c hc⟩⟩

end Go.Proofs.Qxb6601538a
