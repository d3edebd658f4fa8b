/-
  ZZLatenciesAdd (16).
-/
import Derived.Test.Qxb6601538aAdd
import Derived.Laws.Tables
import Derived.Deep.RegionHeld3
namespace Go.Proofs.Qxb6601538a
open Go Go.RowKit
set_option linter.unusedVariables false
set_option linter.unusedSimpArgs false

theorem fold_set (off : Nat) : ∀ (L : List Value) (k : Nat) (cs : Array Value) (i : Nat), off + k + L.length ≤ cs.size →
    ((L.zipIdx k).foldl (fun cs (p : Value × Nat) => cs.setIfInBounds (off + p.2) p.1) cs)[i]? = if off + k ≤ i ∧ i < off + k + L.length then L[i - (off + k)]? else cs[i]?
  | [], k, cs, i, _ => by rw [if_neg (by simp)]; rfl
  | v :: L, k, cs, i, h => by
    simp only [List.zipIdx_cons, List.foldl_cons]
    simp only [List.length_cons] at h
    rw [fold_set off L (k + 1) _ i (by simp; omega), Array.getElem?_setIfInBounds]
    by_cases e : off + k = i
    · subst e
      rw [if_neg (by omega), if_pos rfl, if_pos (by omega), if_pos (by simp)]
      simp
    · rw [if_neg e]
      by_cases h2 : off + k ≤ i ∧ i < off + k + (v :: L).length
      · simp only [List.length_cons] at h2
        rw [if_pos (by omega), if_pos (by simp only [List.length_cons]; omega)]
        have : i - (off + k) = (i - (off + (k + 1))) + 1 := by omega
        rw [this, List.getElem?_cons_succ]
      · simp only [List.length_cons] at h2
        rw [if_neg (by omega), if_neg (by simp only [List.length_cons]; omega)]

def Z50 : Array Value := (Array.replicate 54 (.pointer none)).push (.int .u64 0)
theorem Z50_size : Z50.size = 55 := by simp [Z50]
theorem info50 : (Try.prog.info? 50).map (fun i => i.zero) = some (some (.agg Z50)) := by kernel_rfl
theorem size50 : (Try.prog.info? 50).map (·.size) = some 55 := by kernel_rfl
theorem zero50 (w : World) : (zeroValue 50).run Try.prog w = .ok (.agg Z50) w := by
  obtain ⟨i, hi, hz⟩ := Option.map_eq_some_iff.1 info50
  simp [zeroValue, typeInfo, hi, hz]

def fill50 (D : Array Value) (v : Value) : Option (Array Value) := Instr.fill ([(0, 54), (54, 1)].toArray[·]?) Z50 [(0, .agg D), (1, v)]
theorem fill50_eq (D : Array Value) (c : Int) (hD : D.size = 54) : fill50 D (.int .u64 c) = some (D.push (.int .u64 c)) := by
  unfold fill50 Instr.fill
  simp only [List.getElem?_toArray, List.getElem?_cons_zero]
  rw [if_neg (by simp [Value.cells, hD, Z50_size])]
  unfold Instr.fill
  simp only [List.getElem?_toArray, List.getElem?_cons_succ, List.getElem?_cons_zero]
  have hs : (Array.foldl (fun (cs : Array Value) (x : Value × Nat) => cs.setIfInBounds (0 + x.2) x.1) Z50 (Value.agg D).cells.zipIdx).size = 55 := by
    rw [← Array.foldl_toList]
    generalize (Value.agg D).cells.zipIdx.toList = L
    have : ∀ (L : List (Value × Nat)) (Z : Array Value), (L.foldl (fun (cs : Array Value) (x : Value × Nat) => cs.setIfInBounds (0 + x.2) x.1) Z).size = Z.size := by
      intro L
      induction L with
      | nil => intro Z; rfl
      | cons a L ih => intro Z; rw [List.foldl_cons, ih]; simp
    rw [this, Z50_size]
  rw [if_neg (by simp only [hs]; simp [Value.cells])]
  unfold Instr.fill
  congr 1
  apply Array.ext_getElem?
  intro j
  have e1 : (Value.int .u64 c).cells = #[.int .u64 c] := rfl
  rw [e1]
  show (Array.setIfInBounds _ (54 + 0) _)[j]? = _
  rw [Array.getElem?_setIfInBounds, hs, ← Array.foldl_toList, Array.toList_zipIdx]
  have e2 : (Value.agg D).cells = D := rfl
  rw [e2, fold_set 0 D.toList 0 Z50 j (by simp [hD, Z50_size]), Array.getElem?_push]
  simp only [Array.length_toList, Array.getElem?_toList, Nat.sub_zero, Nat.add_zero, Nat.zero_add]
  by_cases e : 54 = j
  · subst e
    rw [if_pos rfl, if_pos (by omega), if_pos (by omega)]
    rfl
  · rw [if_neg e]
    by_cases h : j < 54
    · rw [if_pos (by omega), if_neg (by omega)]
    · rw [if_neg (by omega), if_neg (by omega), Array.getElem?_eq_none (by rw [Z50_size]; omega), Array.getElem?_eq_none (by omega)]

theorem built50 (D : Array Value) (c : Int) (hD : D.size = 54) : Try.prog.built 50 [(0, .agg D), (1, .int .u64 c)] = some (D.push (.int .u64 c)) := by
  rw [← fill50_eq D c hD]
  obtain ⟨i, hi, hz⟩ := Option.map_eq_some_iff.1 info50
  unfold Program.built
  rw [hi, Try.underlying50]
  simp only [hz]
  rfl

theorem wpList_build50 {ops : Array Oper} {rest : List Oper} {op : Oper} {a : Act} {w : World} {Q : Exit → Act → World → Prop} (hgd : op.guard = none) (x y : Operand) (ho : op.op = .build 50 #[(0, x), (1, y)]) (D : Array Value) (c : Int) (hx : a.eval x = .agg D)
    (hy : a.eval y = .int .u64 c) (hD : D.size = 54) (h : wpList Try.prog ops Q rest (a.put op.dst (.agg (D.push (.int .u64 c)))) w) : wpList Try.prog ops Q (op :: rest) a w :=
  wpList_plain hgd fun _ hK => by
    have hr := run_build (P := Try.prog) w 50 #[(0, .agg D), (1, .int .u64 c)] _ (built50 D c hD)
    unfold Oper.wp execOp
    simp only [ho, List.map_toArray, List.map_cons, List.map_nil, hx, hy, Sem.run_bind, hr, Sem.run_pure, Result.andThen_ok]
    exact hK _ _ h

theorem rd_new {w : World} {o : Obj} {n : Nat} (h : n = w.heap.size) : (w.alloc o).heap[n]? = some o := by subst h; exact heap_alloc_new w o
theorem rd_old {w : World} {o v : Obj} {n : Nat} (h : w.heap[n]? = some v) : (w.alloc o).heap[n]? = some v := by rw [Below.heap_alloc _ _ _ (lt_of_block h)]; exact h
theorem rd_other {w : World} {C : Array Value} {b n : Nat} {v : Obj} (hn : n ≠ b) (h : w.heap[n]? = some v) : (w.setRow b C).heap[n]? = some v := by rw [setRow_other _ _ _ _ hn]; exact h
theorem rd_same {w : World} {C C' : Array Value} {b : Nat} {t : TypeId} (h : w.heap[b]? = some (.cells C t (0, 0))) : (w.setRow b C').heap[b]? = some (.cells C' t (0, 0)) := setRow_heap _ _ _ _ _ _ h
theorem rd_drew {w : World} {n q : Nat} {v : Obj} (h : w.heap[n]? = some v) : (w.drewN q).heap[n]? = some v := h
theorem push_oneCell {D : Array Value} (c : Int) (h : D.all (·.oneCell') = true) : (D.push (.int .u64 c)).all (·.oneCell') = true := by
  rw [Array.all_push, h]; rfl

def Z35 : Array Value := Array.replicate 54 (.pointer none)
theorem Z35_size : Z35.size = 54 := by simp [Z35]
theorem zero35 (w : World) : (zeroValue 35).run Try.prog w = .ok (.agg Z35) w := by
  have h : (Try.prog.info? 35).map (fun i => i.zero) = some (some (.agg Z35)) := by kernel_rfl
  obtain ⟨i, hi, hz⟩ := Option.map_eq_some_iff.1 h
  simp [zeroValue, typeInfo, hi, hz]

theorem Below.setRow' {B : Nat} {w w' : World} (h : Below B w w') {b : Nat} (hb : B ≤ b) (C : Array Value) : Below B w (w'.setRow b C) :=
  ⟨h.os, h.tape, h.output, by simpa [World.setRow] using h.size, fun k hk => (setRow_other _ _ _ _ (by omega)).trans (h.block k hk)⟩

theorem AD.start {w4 : World} {lo hi lo2 hi2 : Nat} {DL : Array Value} {lc : Int} {DO : Array Value} {oc : Int} {GL GO : Cont} (hL : Held w4 lo hi DL 54 GL) (hO : Held w4 lo2 hi2 DO 54 GO) (hap : hi2 ≤ lo ∨ hi ≤ lo2) (hhi : hi ≤ w4.heap.size) (hhi2 : hi2 ≤ w4.heap.size) (m : Nat) (hm : m = w4.heap.size) :
    AD w4 ((((w4.alloc (.cells Z50 50)).setRow m (DL.push (.int .u64 lc))).alloc (.cells Z50 50)).setRow (m + 1) (DO.push (.int .u64 oc))) lo hi lo2 hi2 m (m + 1) DL lc DO oc GL GO := by
  have hb : Below w4.heap.size w4 ((((w4.alloc (.cells Z50 50)).setRow m (DL.push (.int .u64 lc))).alloc (.cells Z50 50)).setRow (m + 1) (DO.push (.int .u64 oc))) := by
    refine Below.setRow' (Below.alloc (Below.setRow' (Below.alloc (Below.refl _ _) (Nat.le_refl _) _) (by omega) _) ?_ _) (by omega) _
    simp [World.setRow]
  refine ⟨?_, ?_, (hL.below hb hhi).toP (fun b h1 h2 => .inl ⟨h1, h2⟩), hO.below hb hhi2, Out.of_below hb, by omega, by omega, by omega, hhi, hhi2, hap⟩
  · refine rd_other (by omega) (rd_old (rd_same (rd_new hm)))
  · refine rd_same (rd_new ?_)
    simp [World.setRow, hm]

theorem heap_setCells_other (b : Nat) : ∀ (vs : List Value) (o : Nat) (w : World) (k : Nat), k ≠ b → (w.setCells b o vs).heap[k]? = w.heap[k]?
  | [], _, _, _, _ => rfl
  | v :: r, o, w, k, h => by
    rw [World.setCells, heap_setCells_other b r (o + 1) _ k h]
    exact heap_setCell_other _ _ _ _ h
theorem heap_setCells_size (b : Nat) : ∀ (vs : List Value) (o : Nat) (w : World), (w.setCells b o vs).heap.size = w.heap.size
  | [], _, _ => rfl
  | v :: r, o, w => by rw [World.setCells, heap_setCells_size b r (o + 1) _]; simp [World.setCell]
theorem setCells_os (b : Nat) : ∀ (vs : List Value) (o : Nat) (w : World), (w.setCells b o vs).os = w.os ∧ (w.setCells b o vs).tape = w.tape ∧ (w.setCells b o vs).output = w.output
  | [], _, _ => ⟨rfl, rfl, rfl⟩
  | v :: r, o, w => by rw [World.setCells]; exact setCells_os b r (o + 1) _

theorem HeldP.oneCell {w : World} {S : Nat → Prop} {D : Array Value} {G : Cont} (h : HeldP w S D G) : D.all (·.oneCell') = true := by
  rw [Array.all_eq_true_iff_forall_mem]
  intro v hv
  obtain ⟨r, hr, rfl⟩ := Array.mem_iff_getElem.1 hv
  have hs := h.size
  rcases h.row r (by omega) with h0 | ⟨b, f, h1, _⟩
  · rw [Array.getElem?_eq_getElem hr] at h0
    rw [Option.some.inj h0.1]; rfl
  · rw [Array.getElem?_eq_getElem hr] at h1
    rw [Option.some.inj h1]; rfl
theorem HeldP.turn {w W : World} {S S' : Nat → Prop} {D : Array Value} {G : Cont} (h : HeldP w S D G) (hS : ∀ b, S b → S' b) (hw : ∀ (b : Nat) (f : Nat → Int), w.heap[b]? = some (Obj.cells (rowArr f) 48 (0, 0)) → W.heap[b]? = w.heap[b]?) : HeldP W S' D G :=
  ⟨h.size, fun r hr => by
    rcases h.row r hr with h0 | ⟨b, f, h1, h2, h3, h4⟩
    · exact .inl h0
    · exact .inr ⟨b, f, h1, h2, hS b h3, (hw b f h4).trans h4⟩, h.apart⟩
theorem there_of_block {w : World} {b : Nat} {C : Array Value} {t : TypeId} (h : w.heap[b]? = some (.cells C t (0, 0))) : w.there b 0 C.size := fun j hj => by
  rw [Nat.zero_add, cell_of_row _ _ _ _ _ _ h, Array.getElem?_eq_getElem hj]
  exact ⟨rfl, frozen_of_row _ _ _ _ _ h⟩
theorem range_of_push {w : World} {b : Nat} {L : List Value} {v : Value} {t : TypeId} {fr : Nat × Nat} (h : w.heap[b]? = some (.cells (L.toArray.push v) t fr)) : w.rangeAt b 0 L := fun j u hu => by
  have hj : j < L.length := (List.getElem?_eq_some_iff.1 hu).1
  rw [Nat.zero_add, cell_of_row _ _ _ _ _ _ h, Array.getElem?_push, if_neg (by simp; omega)]
  simpa using hu

theorem zs_keep {w : World} {bl bo q q1 q2 : Nat} {L1 L2 : List Value} {c d : Value} (L : List Value) (h1 : bl ≠ q) (h2 : bo ≠ q)
    (h : w.rangeAt bl 0 L1 ∧ w.rangeAt bo 0 L2 ∧ w.cell? ⟨bl, 54, none⟩ = some c ∧ w.cell? ⟨bo, 54, none⟩ = some d ∧ w.there q1 0 54 ∧ w.there q2 0 54) :
    (w.setCells q 0 L).rangeAt bl 0 L1 ∧ (w.setCells q 0 L).rangeAt bo 0 L2 ∧ (w.setCells q 0 L).cell? ⟨bl, 54, none⟩ = some c ∧ (w.setCells q 0 L).cell? ⟨bo, 54, none⟩ = some d ∧ (w.setCells q 0 L).there q1 0 54 ∧ (w.setCells q 0 L).there q2 0 54 := by
  obtain ⟨a1, a2, a3, a4, a5, a6⟩ := h
  exact ⟨World.rangeAt_setCells_apart a1 _ _ _ (.inl h1), World.rangeAt_setCells_apart a2 _ _ _ (.inl h2), (World.cell?_of_block (heap_setCells_other q L 0 w bl h1)).trans a3, (World.cell?_of_block (heap_setCells_other q L 0 w bo h2)).trans a4,
    World.there_setCells a5 _ _ _, World.there_setCells a6 _ _ _⟩

theorem results_four {P : Program} {fn : Func} {p1 p2 s1 s2 : Tmp} {t1 t2 : TypeId} (h : fn.results = #[.cell p1 t1, .tmp s1, .cell p2 t2, .tmp s2]) (tmps : Array Value) (w : World) (a1 a2 : Addr) (v1 v2 u1 u2 : Value)
    (hp1 : tmps.getD p1 undef = .pointer (some a1)) (hr1 : (loadVar t1 a1).run P w = .ok v1 w) (hp2 : tmps.getD p2 undef = .pointer (some a2)) (hr2 : (loadVar t2 a2).run P w = .ok v2 w) (hs1 : tmps.getD s1 undef = u1) (hs2 : tmps.getD s2 undef = u2) :
    (results fn tmps).run P w = .ok (.tuple #[v1, u1, v2, u2]) w := by
  rw [Array.getD_eq_getD_getElem?] at hp1 hp2 hs1 hs2
  simp [results, h, hp1, hr1, hp2, hr2, hs1, hs2, asAddr]

set_option maxRecDepth 100000 in
set_option maxHeartbeats 2000000 in
theorem zzadd_any (w : World) (lo hi lo2 hi2 : Nat) (DL : Array Value) (lc : Int) (DO : Array Value) (oc : Int) (GL GO : Cont) (hL : Held w lo hi DL 54 GL) (hO : Held w lo2 hi2 DO 54 GO) (hap : hi2 ≤ lo ∨ hi ≤ lo2) (hhi : hi ≤ w.heap.size) (hhi2 : hi2 ≤ w.heap.size) (hf : GO.fits) :
    Calls Try.prog 16 #[.agg DL, .int .u64 lc, .agg DO, .int .u64 oc] w fun e w' => ∃ DL' G', e = .returned (.tuple #[.agg DL', .int .u64 (IntKind.u64.wrap (lc + oc)), .agg DO, .int .u64 oc]) ∧
      HeldP w' (Mine lo hi w.heap.size) DL' G' ∧ (∀ r, r < 54 → G' r = addRow (GL r) (GO r)) ∧ Out lo hi w w' := by
  have hz50 := zero50
  have hz35 := zero35
  have hDLs := hL.size
  have hDOs := hO.size
  have hone1 := hL.oneCell
  have hone2 := hO.oneCell
  have hp1 : (DL.push (.int .u64 lc)).size = 55 := by simp [hDLs]
  have hp2 : (DO.push (.int .u64 oc)).size = 55 := by simp [hDOs]
  have ho1 := push_oneCell lc hone1
  have ho2 := push_oneCell oc hone2
  go_enter Try.func16, Try.ntmps16
  go_wp2_with (first
    | (refine wpList_load_row rfl 35 (.tmp 4) rfl w.heap.size rfl DL 35 (by repeat' (with_reducible (first | assumption | exact rd_new (by simp [World.setRow]) | refine rd_same ?_ | refine rd_old ?_ | refine rd_other (by omega) ?_ | refine rd_drew ?_))) 54 34 Try.underlying35 size35 hDLs ?_)
    | (refine wpList_load_row rfl 35 (.tmp 6) rfl (w.heap.size + 1) rfl DO 35 (by repeat' (with_reducible (first | assumption | exact rd_new (by simp [World.setRow]) | refine rd_same ?_ | refine rd_old ?_ | refine rd_other (by omega) ?_ | refine rd_drew ?_))) 54 34 Try.underlying35 size35 hDOs ?_)
    | (refine wpList_build50 rfl (.tmp 14) (.tmp 15) rfl DL lc rfl rfl hDLs ?_)
    | (refine wpList_build50 rfl (.tmp 17) (.tmp 18) rfl DO oc rfl rfl hDOs ?_)
    | (refine wpList_store_row rfl 50 (.tmp 12) (.tmp 16) rfl (w.heap.size + 4) Z50 (DL.push (.int .u64 lc)) rfl rfl 50 (by repeat' (with_reducible (first | assumption | exact rd_new (by simp [World.setRow]) | refine rd_same ?_ | refine rd_old ?_ | refine rd_other (by omega) ?_ | refine rd_drew ?_))) 55 size50 Z50_size hp1 ho1 ?_)
    | (refine wpList_store_row rfl 50 (.tmp 13) (.tmp 19) rfl (w.heap.size + 5) Z50 (DO.push (.int .u64 oc)) rfl rfl 50 (by repeat' (with_reducible (first | assumption | exact rd_new (by simp [World.setRow]) | refine rd_same ?_ | refine rd_old ?_ | refine rd_other (by omega) ?_ | refine rd_drew ?_))) 55 size50 Z50_size hp2 ho2 ?_))
  have hb4 : Below w.heap.size w ((((w.alloc (.cells DL 35)).alloc (.cells DO 35)).alloc (.cells Z35 35)).alloc (.cells Z35 35)) :=
    ((((Below.refl _ _).alloc (Nat.le_refl _) _).alloc (by simp) _).alloc (by simp <;> omega) _).alloc (by simp <;> omega) _
  have hs4 : ((((w.alloc (.cells DL 35)).alloc (.cells DO 35)).alloc (.cells Z35 35)).alloc (.cells Z35 35)).heap.size = w.heap.size + 4 := by simp
  refine (add_any ((((w.alloc (.cells DL 35)).alloc (.cells DO 35)).alloc (.cells Z35 35)).alloc (.cells Z35 35)) _ lo hi lo2 hi2 _ _ DL lc DO oc GL GO (AD.start (hL.below hb4 hhi) (hO.below hb4 hhi2) hap (by omega) (by omega) (w.heap.size + 4) hs4.symm) hf).mono ?_
  rintro e w' ⟨rfl, DL', G', hA, hG⟩
  have r1 : w'.heap[w.heap.size + 1 + 1]? = some (.cells Z35 35 (0, 0)) := by
    rw [hA.out.block _ (by omega) (.inr (by omega))]
    exact rd_old (rd_new (by simp))
  have r2 : w'.heap[w.heap.size + 1 + 1 + 1]? = some (.cells Z35 35 (0, 0)) := by
    rw [hA.out.block _ (by omega) (.inr (by omega))]
    exact rd_new (by simp)
  have HO : Hid (Out lo hi w w') := (Out.of_below hb4).trans hA.out
  obtain ⟨L1, rfl⟩ : ∃ L : List Value, DL' = L.toArray := ⟨DL'.toList, by simp⟩
  obtain ⟨L2, rfl⟩ : ∃ L : List Value, DO = L.toArray := ⟨DO.toList, by simp⟩
  have hs1 : L1.length = 54 := by simpa using hA.rows.size
  have hs2 : L2.length = 54 := by simpa using hDOs
  have hi1 : (Try.prog.info? 35).map (·.size) = some L1.length := by rw [hs1]; exact size35
  have hi2' : (Try.prog.info? 35).map (·.size) = some L2.length := by rw [hs2]; exact size35
  have hu := Try.underlying35
  have hc1 : ∀ v ∈ L1, v.oneCell' = true := fun v hv => (Array.all_eq_true_iff_forall_mem.1 hA.rows.oneCell) v (by simpa using hv)
  have hc2 : ∀ v ∈ L2, v.oneCell' = true := fun v hv => (Array.all_eq_true_iff_forall_mem.1 hone2) v (by simpa using hv)
  have f1 := range_of_push hA.L
  have f2 := range_of_push hA.O
  have f3 := hA.cntL
  have f4 := hA.cntO
  have f5 := there_of_block r1
  have f6 := there_of_block r2
  rw [Z35_size] at f5 f6
  have HA : Hid (AD ((((w.alloc (.cells DL 35)).alloc (.cells L2.toArray 35)).alloc (.cells Z35 35)).alloc (.cells Z35 35)) w' lo hi lo2 hi2 (w.heap.size + 1 + 1 + 1 + 1) (w.heap.size + 1 + 1 + 1 + 1 + 1) L1.toArray (IntKind.u64.wrap (lc + oc)) L2.toArray oc G' GO) := hA
  have HG : Hid (∀ r, r < 54 → G' r = addRow (GL r) (GO r)) := hG
  have f1' : w'.rangeAt (w.heap.size + 1 + 1 + 1 + 1) 0 L1 := f1
  have f2' : w'.rangeAt (w.heap.size + 1 + 1 + 1 + 1 + 1) 0 L2 := f2
  have f3' : w'.cell? ⟨w.heap.size + 1 + 1 + 1 + 1, 54, none⟩ = some (.int .u64 (IntKind.u64.wrap (lc + oc))) := f3
  have f4' : w'.cell? ⟨w.heap.size + 1 + 1 + 1 + 1 + 1, 54, none⟩ = some (.int .u64 oc) := f4
  have HR1 : Hid (w'.heap[w.heap.size + 1 + 1]? = some (.cells Z35 35 (0, 0))) := r1
  have HR2 : Hid (w'.heap[w.heap.size + 1 + 1 + 1]? = some (.cells Z35 35 (0, 0))) := r2
  have HS : Hid (w.heap.size ≤ ((((w.alloc (.cells DL 35)).alloc (.cells L2.toArray 35)).alloc (.cells Z35 35)).alloc (.cells Z35 35)).heap.size) := by
    show _ ≤ _
    omega
  clear hA hG f1 f2 f3 f4 r1 r2 hL hO hone1 hone2 hp1 hp2 ho1 ho2 hz50 hz35 hb4 hs4 hDOs hDLs hf
  generalize hbo : w.heap.size + 1 + 1 + 1 + 1 + 1 = bo at f2' f4' HA ⊢
  generalize hbl : w.heap.size + 1 + 1 + 1 + 1 = bl at f1' f3' HA ⊢
  generalize hr2 : w.heap.size + 1 + 1 + 1 = q2 at f6 HR2 ⊢
  generalize hr1 : w.heap.size + 1 + 1 = q1 at f5 HR1 ⊢
  have n1 : bl ≠ q1 := by omega
  have n2 : bl ≠ q2 := by omega
  have n3 : bo ≠ q1 := by omega
  have n4 : bo ≠ q2 := by omega
  have n5 : q1 ≠ q2 := by omega
  have HN : Hid (w.heap.size ≤ q1 ∧ w.heap.size ≤ q2 ∧ hi ≤ q1 ∧ hi ≤ q2) := ⟨by omega, by omega, by omega, by omega⟩
  clear hbo hbl hr2 hr1 hhi hhi2 hap
  go_wp2
  refine wp_region_held_drew (S := fun w' => w'.rangeAt bl 0 L1 ∧ w'.rangeAt bo 0 L2 ∧ w'.cell? ⟨bl, 54, none⟩ = some (.int .u64 (IntKind.u64.wrap (lc + oc))) ∧ w'.cell? ⟨bo, 54, none⟩ = some (.int .u64 oc) ∧ w'.there q1 0 54 ∧ w'.there q2 0 54) (by kernel_rfl) ?_ (fun hHeld => ?_)
  · simp only [World.rangeAt_drew, World.there_drew, World.cell?_drew]
    exact ⟨f1', f2', f3', f4', f5, f6⟩
  refine wpAnyH_take (i := 0) (v := .pointer (some ⟨bl, 0, none⟩)) rfl (by kernel_rfl) (by kernel_rfl) (by kernel_rfl) (fun _ _ _ h => h) (Or.inl ⟨by rfl, fun w _ => by go_simp⟩) hHeld ?_
  simp only [Act.put, List.getElem_toArray, List.getElem_cons_succ, List.getElem_cons_zero, List.setIfInBounds_toArray, List.set_cons_zero, List.set_cons_succ]
  refine wpAnyH_take (i := 1) (v := .agg L1.toArray) rfl (by kernel_rfl) (by kernel_rfl) (by kernel_rfl) (fun _ _ _ h => h) (yieldsIf_load_mid (by rfl) 35 (.tmp 21) rfl bl 0 rfl L1 _ (fun w hw => hw.1) hu rfl hi1) hHeld ?_
  simp only [Act.put, List.getElem_toArray, List.getElem_cons_succ, List.getElem_cons_zero, List.setIfInBounds_toArray, List.set_cons_zero, List.set_cons_succ]
  refine wpAnyH_take (i := 2) (v := .pointer (some ⟨bl, 54, none⟩)) rfl (by kernel_rfl) (by kernel_rfl) (by kernel_rfl) (fun _ _ _ h => h) (Or.inl ⟨by rfl, fun w _ => by go_simp⟩) hHeld ?_
  simp only [Act.put, List.getElem_toArray, List.getElem_cons_succ, List.getElem_cons_zero, List.setIfInBounds_toArray, List.set_cons_zero, List.set_cons_succ]
  refine wpAnyH_take (i := 3) (v := .int .u64 (IntKind.u64.wrap (lc + oc))) rfl (by kernel_rfl) (by kernel_rfl) (by kernel_rfl) (fun _ _ _ h => h) (Or.inl ⟨by rfl, fun w hw => by have h3 := hw.2.2.1; go_simp⟩) hHeld ?_
  simp only [Act.put, List.getElem_toArray, List.getElem_cons_succ, List.getElem_cons_zero, List.setIfInBounds_toArray, List.set_cons_zero, List.set_cons_succ]
  refine wpAnyH_take (i := 4) (v := .pointer (some ⟨bo, 0, none⟩)) rfl (by kernel_rfl) (by kernel_rfl) (by kernel_rfl) (fun _ _ _ h => h) (Or.inl ⟨by rfl, fun w _ => by go_simp⟩) hHeld ?_
  simp only [Act.put, List.getElem_toArray, List.getElem_cons_succ, List.getElem_cons_zero, List.setIfInBounds_toArray, List.set_cons_zero, List.set_cons_succ]
  refine wpAnyH_take (i := 5) (v := .agg L2.toArray) rfl (by kernel_rfl) (by kernel_rfl) (by kernel_rfl) (fun _ _ _ h => h) (yieldsIf_load_mid (by rfl) 35 (.tmp 25) rfl bo 0 rfl L2 _ (fun w hw => hw.2.1) hu rfl hi2') hHeld ?_
  simp only [Act.put, List.getElem_toArray, List.getElem_cons_succ, List.getElem_cons_zero, List.setIfInBounds_toArray, List.set_cons_zero, List.set_cons_succ]
  refine wpAnyH_take (i := 6) (v := .pointer (some ⟨bo, 54, none⟩)) rfl (by kernel_rfl) (by kernel_rfl) (by kernel_rfl) (fun _ _ _ h => h) (Or.inl ⟨by rfl, fun w _ => by go_simp⟩) hHeld ?_
  simp only [Act.put, List.getElem_toArray, List.getElem_cons_succ, List.getElem_cons_zero, List.setIfInBounds_toArray, List.set_cons_zero, List.set_cons_succ]
  refine wpAnyH_take (i := 7) (v := .int .u64 oc) rfl (by kernel_rfl) (by kernel_rfl) (by kernel_rfl) (fun _ _ _ h => h) (Or.inl ⟨by rfl, fun w hw => by have h3 := hw.2.2.2.1; go_simp⟩) hHeld ?_
  simp only [Act.put, List.getElem_toArray, List.getElem_cons_succ, List.getElem_cons_zero, List.setIfInBounds_toArray, List.set_cons_zero, List.set_cons_succ]
  refine wpAnyH_ready (rs := [8]) (by kernel_rfl) (by simp) ?_
  refine AllReadyH.cons rfl (fun K hK => ?_) AllReadyH.nil
  rw [if_pos (by rfl)]
  refine wp_store_mid 35 (.tmp 8) (.tmp 22) rfl q1 0 L1.toArray rfl rfl (by simpa [hs1] using hHeld.2.2.2.2.1) (by simpa using hi1) (all_oneCell_toArray hc1) ?_
  refine hK.out _ _ (zs_keep L1 n1 n3 hHeld) (fun hHeld2 => ?_)
  clear hK K
  try simp only [Act.put, List.getElem_toArray, List.getElem_cons_succ, List.getElem_cons_zero, List.setIfInBounds_toArray, List.set_cons_zero, List.set_cons_succ, List.toList_toArray]
  refine wpAnyH_ready (rs := [9]) (by kernel_rfl) (by simp) ?_
  refine AllReadyH.cons rfl (fun K hK => ?_) AllReadyH.nil
  rw [if_pos (by rfl)]
  go_simp
  refine hK.out _ _ hHeld2 (fun _ => ?_)
  clear hK K
  try simp only [Act.put, List.getElem_toArray, List.getElem_cons_succ, List.getElem_cons_zero, List.setIfInBounds_toArray, List.set_cons_zero, List.set_cons_succ, List.toList_toArray]
  refine wpAnyH_ready (rs := [10]) (by kernel_rfl) (by simp) ?_
  refine AllReadyH.cons rfl (fun K hK => ?_) AllReadyH.nil
  rw [if_pos (by rfl)]
  refine wp_store_mid 35 (.tmp 10) (.tmp 26) rfl q2 0 L2.toArray rfl rfl (by simpa [hs2] using hHeld2.2.2.2.2.2) (by simpa using hi2') (all_oneCell_toArray hc2) ?_
  refine hK.out _ _ (zs_keep L2 n2 n4 hHeld2) (fun hHeld3 => ?_)
  clear hK K
  try simp only [Act.put, List.getElem_toArray, List.getElem_cons_succ, List.getElem_cons_zero, List.setIfInBounds_toArray, List.set_cons_zero, List.set_cons_succ, List.toList_toArray]
  refine wpAnyH_ready (rs := [11]) (by kernel_rfl) (by simp) ?_
  refine AllReadyH.cons rfl (fun K hK => ?_) AllReadyH.nil
  rw [if_pos (by rfl)]
  go_simp
  refine hK.out _ _ hHeld3 (fun _ => ?_)
  clear hK K
  try simp only [Act.put, List.getElem_toArray, List.getElem_cons_succ, List.getElem_cons_zero, List.setIfInBounds_toArray, List.set_cons_zero, List.set_cons_succ, List.toList_toArray]
  refine wpAnyH_done (by kernel_rfl) ?_ _
  go_wp2
  have g1 : ((w'.drew.setCells q1 0 L1).setCells q2 0 L2).rangeAt q1 0 L1 :=
    World.rangeAt_setCells_apart (World.rangeAt_setCells_same _ _ _ _ (by rw [hs1]; simpa using f5)) _ _ _ (.inl n5)
  have g2 : ((w'.drew.setCells q1 0 L1).setCells q2 0 L2).rangeAt q2 0 L2 :=
    World.rangeAt_setCells_same _ _ _ _ (World.there_setCells (by rw [hs2]; simpa using f6) _ _ _)
  have hoth : ∀ k, k ≠ q1 → k ≠ q2 → ((w'.drew.setCells q1 0 L1).setCells q2 0 L2).heap[k]? = w'.heap[k]? := fun k h1 h2 => by
    rw [heap_setCells_other _ _ _ _ _ h2, heap_setCells_other _ _ _ _ _ h1]; rfl
  have hrows : HeldP ((w'.drew.setCells q1 0 L1).setCells q2 0 L2) (Mine lo hi w.heap.size) L1.toArray G' := by
    refine HA.out.rows.turn (fun b hb => hb.elim .inl (fun h => .inr (Nat.le_trans HS.out h))) (fun b f hb => ?_)
    refine hoth b (fun e => ?_) (fun e => ?_)
    · subst e; have := HR1.out; rw [hb] at this; simp at this
    · subst e; have := HR2.out; rw [hb] at this; simp at this
  have hout : Out lo hi w ((w'.drew.setCells q1 0 L1).setCells q2 0 L2) := by
    obtain ⟨m1, m2, m3, m4⟩ := HN.out
    have h0 := HO.out
    refine ⟨?_, ?_, ?_, ?_, fun k hk ho => (hoth k (by omega) (by omega)).trans (h0.block k hk ho)⟩
    · rw [(setCells_os _ _ _ _).1, (setCells_os _ _ _ _).1]; exact h0.os
    · rw [(setCells_os _ _ _ _).2.1, (setCells_os _ _ _ _).2.1]; exact h0.tape
    · rw [(setCells_os _ _ _ _).2.2, (setCells_os _ _ _ _).2.2]; exact h0.output
    · rw [heap_setCells_size, heap_setCells_size]; exact h0.size
  exact bodyPost_ret (v := .tuple #[.agg L1.toArray, .int .u64 (IntKind.u64.wrap (lc + oc)), .agg L2.toArray, .int .u64 oc]) (results_four rfl _ _ ⟨q1, 0, none⟩ ⟨q2, 0, none⟩ _ _ _ _ rfl (run_loadVar_mid _ q1 0 35 L1 _ g1 hu rfl hi1) rfl (run_loadVar_mid _ q2 0 35 L2 _ g2 hu rfl hi2') rfl rfl) rfl ⟨L1.toArray, rfl, G', hrows, HG.out, hout⟩

end Go.Proofs.Qxb6601538a
