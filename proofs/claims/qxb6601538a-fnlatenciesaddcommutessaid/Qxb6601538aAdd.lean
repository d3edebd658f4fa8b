/-
  latencies.add (23).
-/
import Derived.Test.Qxb6601538aAddParts
namespace Go.Proofs.Qxb6601538a
open Go Go.RowKit
set_option linter.unusedVariables false
set_option linter.unusedSimpArgs false

/-- A row of the sum. -/
def addRow : Option (Nat → Int) → Option (Nat → Int) → Option (Nat → Int)
  | l, none => l
  | none, some o => some o
  | some l, some o => some (fun c => IntKind.u64.wrap (l c + o c))

/-- A row of which the first c counts are added. -/
def mx (l o : Nat → Int) (c : Nat) (j : Nat) : Int := if j < c then IntKind.u64.wrap (l j + o j) else l j
theorem mx_zero (l o : Nat → Int) : rowArr (mx l o 0) = rowArr l := rowArr_congr (fun c _ => if_neg (by omega))
theorem mx_at (l o : Nat → Int) (c : Nat) : mx l o c c = l c := if_neg (by omega)
theorem mx_succ (l o : Nat → Int) (c : Nat) (hc : c < 1024) : (rowArr (mx l o c)).setIfInBounds c (.int .u64 (IntKind.u64.wrap (l c + o c))) = rowArr (mx l o (c + 1)) := by
  refine rowArr_eq (by simpa using rowArr_size _) (fun j hj => ?_)
  rw [Array.getElem?_setIfInBounds]
  by_cases e : c = j
  · subst e
    rw [if_pos rfl, if_pos (by rw [rowArr_size]; omega), mx, if_pos (by omega)]
  · rw [if_neg e, rowArr_get _ _ hj]
    unfold mx
    by_cases h : j < c
    · rw [if_pos h, if_pos (by omega)]
    · rw [if_neg h, if_neg (by omega)]

/-- An element of the array of pointers, by value. -/
theorem run_index35 (D : Array Value) (k : Nat) (v : Value) (hk : k < 54) (h : D[k]? = some v) (w : World) : (Instr.index 35 (.agg D) (.int .i64 (k : Int))).run Try.prog w = .ok v w := by
  have h1 : (0 : Int) ≤ (k : Int) ∧ (k : Int) < 54 := by omega
  have h2 : ¬ (54 ≤ k) := by omega
  simp [Instr.index, asIntOf, run_underlying Try.underlying35, h1, Try.sizeOf34, part, Try.isAgg34, h]
  try omega

/-- The first k rows are added. -/
def Mixed (GL GO : Cont) (k : Nat) (G : Cont) : Prop := ∀ r, r < 54 → G r = if r < k then addRow (GL r) (GO r) else GL r
theorem Mixed.at {GL GO G : Cont} {k : Nat} (h : Mixed GL GO k G) (hk : k < 54) : G k = GL k := by rw [h k hk, if_neg (by omega)]
theorem Mixed.next {GL GO G : Cont} {k : Nat} (h : Mixed GL GO k G) (hk : k < 54) (f : Option (Nat → Int)) (e : f = addRow (GL k) (GO k)) : Mixed GL GO (k + 1) (upd G k f) := fun r hr => by
  by_cases hrk : r = k
  · subst hrk
    rw [upd_same, if_pos (by omega), e]
  · rw [upd_other _ _ _ _ hrk, h r hr]
    by_cases h1 : r < k
    · rw [if_pos h1, if_pos (by omega)]
    · rw [if_neg h1, if_neg (by omega)]
theorem Mixed.skip {GL GO G : Cont} {k : Nat} (h : Mixed GL GO k G) (hk : k < 54) (e : GO k = none) : Mixed GL GO (k + 1) G := fun r hr => by
  rw [h r hr]
  by_cases h1 : r < k
  · rw [if_pos h1, if_pos (by omega)]
  · rw [if_neg h1]
    by_cases h2 : r < k + 1
    · obtain rfl : r = k := by omega
      rw [if_pos h2, e]
      cases GL r <;> rfl
    · rw [if_neg h2]
theorem upd_upd (G : Cont) (k : Nat) (a b : Option (Nat → Int)) : upd (upd G k a) k b = upd G k b := by
  funext r
  unfold upd
  split <;> rfl

theorem But.cell {b : Nat} {w w' : World} (h : But b w w') {p : Addr} (hp : p.block ≠ b) : w'.cell? p = w.cell? p := World.cell?_of_block (w := w) (h.block p.block hp)

/-- What stands ahead of the inner loop. -/
structure InnerAt (w0 wz : World) (lo hi lo2 hi2 bl bo : Nat) (D : Array Value) (lc : Int) (DO : Array Value) (oc : Int) (G GL GO : Cont) (k b b2 : Nat) (l o : Nat → Int) : Prop where
  ad : AD w0 wz lo hi lo2 hi2 bl bo D lc DO oc G GO
  hk : k < 54
  ptr : D[k]? = some (.pointer (some ⟨b, 0, none⟩))
  hG : G k = some l
  blk : wz.heap[b]? = some (.cells (rowArr l) 48 (0, 0))
  oblk : wz.heap[b2]? = some (.cells (rowArr o) 48 (0, 0))
  nl : bl ≠ b
  no : b2 ≠ b
  next : ∃ f', rowArr (mx l o 1024) = rowArr f' ∧ Mixed GL GO (k + 1) (upd G k (some f'))

theorem AD.inner {w0 wz : World} {lo hi lo2 hi2 bl bo : Nat} {D : Array Value} {lc : Int} {DO : Array Value} {oc : Int} {G GL GO : Cont} {k b b2 : Nat} {l o : Nat → Int} (h : AD w0 wz lo hi lo2 hi2 bl bo D lc DO oc G GO) (hk : k < 54)
    (hp : D[k]? = some (.pointer (some ⟨b, 0, none⟩))) (hG : G k = some l) (ho : DO[k]? = some (.pointer (some ⟨b2, 0, none⟩))) (hGO : GO k = some o)
    (hn : ∃ f', rowArr (mx l o 1024) = rowArr f' ∧ Mixed GL GO (k + 1) (upd G k (some f'))) : InnerAt w0 wz lo hi lo2 hi2 bl bo D lc DO oc G GL GO k b b2 l o := by
  obtain ⟨hm, hblk⟩ : Mine lo hi w0.heap.size b ∧ wz.heap[b]? = some (.cells (rowArr l) 48 (0, 0)) := by
    rcases h.rows.row k hk with ⟨a1, _⟩ | ⟨b', f'', a1, a2, a3, a4⟩
    · rw [hp] at a1; simp at a1
    · rw [hp] at a1
      simp at a1
      subst a1
      rw [hG] at a2
      obtain rfl := Option.some.inj a2
      exact ⟨a3, a4⟩
  obtain ⟨h1, h2, h3⟩ : lo2 ≤ b2 ∧ b2 < hi2 ∧ wz.heap[b2]? = some (.cells (rowArr o) 48 (0, 0)) := by
    rcases h.orow.row k hk with ⟨a1, _⟩ | ⟨b', f'', a1, a2, a3, a4, a5⟩
    · rw [ho] at a1; simp at a1
    · rw [ho] at a1
      simp at a1
      subst a1
      rw [hGO] at a2
      obtain rfl := Option.some.inj a2
      exact ⟨a3, a4, a5⟩
  have e1 := h.hhi
  have e2 := h.hhi2
  have e3 := h.hap
  refine ⟨h, hk, hp, hG, hblk, h3, fun e => ?_, fun e => ?_, hn⟩
  · subst e; have := h.L; rw [hblk] at this; simp at this
  · subst e
    rcases hm with hm | hm <;> omega

set_option maxRecDepth 100000 in
set_option maxHeartbeats 2000000 in
theorem add_any (w0 w : World) (lo hi lo2 hi2 bl bo : Nat) (DL : Array Value) (lc : Int) (DO : Array Value) (oc : Int) (GL GO : Cont) (h : AD w0 w lo hi lo2 hi2 bl bo DL lc DO oc GL GO) (hf : GO.fits) :
    Calls Try.prog 23 #[.pointer (some ⟨bl, 0, none⟩), .pointer (some ⟨bo, 0, none⟩)] w fun e w' => e = .returned (.tuple #[]) ∧
      ∃ DL' G', AD w0 w' lo hi lo2 hi2 bl bo DL' (IntKind.u64.wrap (lc + oc)) DO oc G' GO ∧ ∀ r, r < 54 → G' r = addRow (GL r) (GO r) := by
  have hz48 := zero48
  have hDO := h.orow.size
  have hrange : w.rangeAt bo 0 DO.toList := fun j v hv => by
    have hj : j < DO.toList.length := (List.getElem?_eq_some_iff.1 hv).1
    rw [Nat.zero_add, cell_of_row _ _ _ _ _ _ h.O, Array.getElem?_push, if_neg (by simp at hj; omega)]
    simpa using hv
  have hlen : (Try.prog.info? 35).map (·.size) = some DO.toList.length := by rw [Array.length_toList, hDO]; exact size35
  go_enter Try.func23, Try.ntmps23
  go_wp2_with (refine wpList_load_mid rfl 35 (.tmp 10) rfl bo 0 rfl DO.toList _ hrange Try.underlying35 rfl hlen ?_)
  clear hrange hlen
  go_loopw [12] (fun i wr => ∃ (k : Nat) (D : Array Value) (G : Cont), k ≤ 54 ∧ i = .int .i64 k ∧ AD w0 wr lo hi lo2 hi2 bl bo D lc DO oc G GO ∧ Mixed GL GO k G) (fun i _ => 54 - (intOf i).toNat)
  case atStart => exact ⟨0, DL, GL, by omega, rfl, h, fun r hr => by rw [if_neg (by omega)]⟩
  case round =>
    obtain ⟨k, D, G, hk, rfl, hA, hM⟩ := hrel
    clear h
    by_cases hlt : k < 54
    · have b0 : (0 : Int) ≤ (k : Int) := by omega
      have b1 : (k : Int) < 54 := by omega
      rcases hA.orow.row k hlt with ⟨ho, hGO⟩ | ⟨b2, o, ho, hGO, _, _, hob⟩
      · have HM : Hid (Mixed GL GO (k + 1) G) := hM.skip hlt hGO
        have HA : Hid (AD w0 wr lo hi lo2 hi2 bl bo D lc DO oc G GO) := hA
        have hix := run_index35 DO k _ hlt ho
        clear hA hM hGO hf ho
        go_wp2
        go_roundw
        case rel => exact ⟨k + 1, D, G, by omega, by go_num, HA.out, HM.out⟩
        case measure => simp [intOf]; omega
      · have hix := run_index35 DO k _ hlt ho
        have hfo := hf k hlt o hGO
        clear hob
        rcases hA.rows.row k hlt with ⟨hp, hGk⟩ | ⟨b, l, hp, hGk, _, hblk⟩
        · have k1 := hA.ptr hp hlt
          have k2 := hA.fz k
          have hs54 := hA.rows.size
          have hI := (hA.fresh hlt hp).inner (GL := GL) hlt (show (D.setIfInBounds k (.pointer (some ⟨wr.heap.size, 0, none⟩)))[k]? = some (.pointer (some ⟨wr.heap.size, 0, none⟩)) by rw [Array.getElem?_setIfInBounds, if_pos rfl, if_pos (by omega)]) (upd_same _ _ _) ho hGO
            ⟨o, rowArr_congr (fun c hc => by
              have := hfo c hc
              unfold mx
              rw [if_pos hc, Int.zero_add, IntKind.wrap_u64]
              omega), by
              rw [upd_upd]
              exact hM.next hlt _ (by rw [hGO, ← hM.at hlt, hGk]; rfl)⟩
          have hbw : bl < wr.heap.size := lt_of_block hA.L
          rw [World.setCell_alloc_past _ _ _ _ hbw] at hI
          have HI : Hid (InnerAt w0 ((wr.setCell ⟨bl, k, none⟩ (.pointer (some ⟨wr.heap.size, 0, none⟩))).alloc (.cells Z48 48)) lo hi lo2 hi2 bl bo (D.setIfInBounds k (.pointer (some ⟨wr.heap.size, 0, none⟩))) lc DO oc (upd G k (some fun _ => 0)) GL GO k wr.heap.size b2 (fun _ => 0) o) := hI
          clear hI hA hp hGk hfo hM hf ho hGO
          go_wp2
          have hI := HI.out
          clear HI k1 k2 hbw hix
          generalize ((wr.setCell ⟨bl, k, none⟩ (.pointer (some ⟨wr.heap.size, 0, none⟩))).alloc (.cells Z48 48)) = wz at hI ⊢
          generalize (D.setIfInBounds k (.pointer (some ⟨wr.heap.size, 0, none⟩))) = Dz at hI ⊢
          generalize wr.heap.size = b at hI ⊢
          generalize (fun _ => (0 : Int)) = l at hI ⊢
          generalize upd G k (some l) = Gz at hI ⊢
          go_loopw [32] (fun i wr => ∃ c : Nat, c ≤ 1024 ∧ i = .int .i64 c ∧ wr.heap[b]? = some (.cells (rowArr (mx l o c)) 48 (0, 0)) ∧ But b wz wr) (fun i _ => 1024 - (intOf i).toNat)
          case atStart => exact ⟨0, by omega, rfl, by rw [mx_zero]; exact hI.blk, But.refl _ _⟩
          case round =>
            obtain ⟨c, hc, rfl, hblk, hbut⟩ := hrel
            by_cases hlt2 : c < 1024
            · have k1 : wr.cell? ⟨bl, k, none⟩ = some (.pointer (some ⟨b, 0, none⟩)) := by rw [hbut.cell hI.nl]; exact hI.ad.ptr hI.ptr hI.hk
              have k2 : wr.cell? ⟨b2, c, none⟩ = some (.int .u64 (o c)) := by rw [hbut.cell hI.no, cell_of_row _ _ _ _ _ _ hI.oblk, rowArr_get _ _ hlt2]
              have k3 : wr.cell? ⟨b, c, none⟩ = some (.int .u64 (l c)) := by rw [cell_of_row _ _ _ _ _ _ hblk, rowArr_get _ _ hlt2, mx_at]
              have k4 : wr.frozen? ⟨b, c, none⟩ = false := frozen_of_row _ _ _ _ _ hblk
              have b2' : (0 : Int) ≤ (c : Int) := by omega
              have b3' : (c : Int) < 1024 := by omega
              have HB : Hid (But b wz (wr.setCell ⟨b, c, none⟩ (.int .u64 (IntKind.u64.wrap (l c + o c))))) := hbut.setCell _
              have HK : Hid ((wr.setCell ⟨b, c, none⟩ (.int .u64 (IntKind.u64.wrap (l c + o c)))).heap[b]? = some (.cells (rowArr (mx l o (c + 1))) 48 (0, 0))) :=
                (heap_setCell_same _ _ _ _ _ _ hblk).trans (by rw [mx_succ _ _ _ hlt2])
              clear hblk hbut hI
              go_wp2
              go_quiet (fail)
              go_wp2
              go_region
              all_goals
                go_wp2
                go_roundw
                case rel => exact ⟨c + 1, by omega, by go_num, HK.out, ⟨HB.out.os, HB.out.tape, HB.out.output, HB.out.size, HB.out.block⟩⟩
                case measure => simp [intOf]; omega
            · obtain rfl : c = 1024 := by omega
              obtain ⟨f', e1, e2⟩ := hI.next
              have HA : Hid (AD w0 wr lo hi lo2 hi2 bl bo Dz lc DO oc (upd Gz k (some f')) GO) := hI.ad.turn hI.hk hI.ptr hI.hG hbut (by rw [← e1]; exact hblk)
              have HM : Hid (Mixed GL GO (k + 1) (upd Gz k (some f'))) := e2
              clear hblk hbut hI e1 e2
              go_wp2
              go_roundw
              case rel => exact ⟨k + 1, _, _, by omega, by go_num, HA.out, HM.out⟩
              case measure => simp [intOf]; omega
        · have k1 := hA.ptr hp hlt
          have hI := hA.inner (GL := GL) hlt hp hGk ho hGO ⟨fun c => IntKind.u64.wrap (l c + o c), rowArr_congr (fun c hc => by unfold mx; rw [if_pos hc]), hM.next hlt _ (by rw [hGO, ← hM.at hlt, hGk]; rfl)⟩
          have HI : Hid (InnerAt w0 wr lo hi lo2 hi2 bl bo D lc DO oc G GL GO k b b2 l o) := hI
          clear hI hA hp hGk hfo hM hf ho hGO hblk
          go_wp2
          have hI := HI.out
          clear HI k1 hix
          generalize wr = wz at hI ⊢
          generalize D = Dz at hI ⊢
          generalize G = Gz at hI ⊢
          go_loopw [32] (fun i wr => ∃ c : Nat, c ≤ 1024 ∧ i = .int .i64 c ∧ wr.heap[b]? = some (.cells (rowArr (mx l o c)) 48 (0, 0)) ∧ But b wz wr) (fun i _ => 1024 - (intOf i).toNat)
          case atStart => exact ⟨0, by omega, rfl, by rw [mx_zero]; exact hI.blk, But.refl _ _⟩
          case round =>
            obtain ⟨c, hc, rfl, hblk, hbut⟩ := hrel
            by_cases hlt2 : c < 1024
            · have k1 : wr.cell? ⟨bl, k, none⟩ = some (.pointer (some ⟨b, 0, none⟩)) := by rw [hbut.cell hI.nl]; exact hI.ad.ptr hI.ptr hI.hk
              have k2 : wr.cell? ⟨b2, c, none⟩ = some (.int .u64 (o c)) := by rw [hbut.cell hI.no, cell_of_row _ _ _ _ _ _ hI.oblk, rowArr_get _ _ hlt2]
              have k3 : wr.cell? ⟨b, c, none⟩ = some (.int .u64 (l c)) := by rw [cell_of_row _ _ _ _ _ _ hblk, rowArr_get _ _ hlt2, mx_at]
              have k4 : wr.frozen? ⟨b, c, none⟩ = false := frozen_of_row _ _ _ _ _ hblk
              have b2' : (0 : Int) ≤ (c : Int) := by omega
              have b3' : (c : Int) < 1024 := by omega
              have HB : Hid (But b wz (wr.setCell ⟨b, c, none⟩ (.int .u64 (IntKind.u64.wrap (l c + o c))))) := hbut.setCell _
              have HK : Hid ((wr.setCell ⟨b, c, none⟩ (.int .u64 (IntKind.u64.wrap (l c + o c)))).heap[b]? = some (.cells (rowArr (mx l o (c + 1))) 48 (0, 0))) :=
                (heap_setCell_same _ _ _ _ _ _ hblk).trans (by rw [mx_succ _ _ _ hlt2])
              clear hblk hbut hI
              go_wp2
              go_quiet (fail)
              go_wp2
              go_region
              all_goals
                go_wp2
                go_roundw
                case rel => exact ⟨c + 1, by omega, by go_num, HK.out, ⟨HB.out.os, HB.out.tape, HB.out.output, HB.out.size, HB.out.block⟩⟩
                case measure => simp [intOf]; omega
            · obtain rfl : c = 1024 := by omega
              obtain ⟨f', e1, e2⟩ := hI.next
              have HA : Hid (AD w0 wr lo hi lo2 hi2 bl bo Dz lc DO oc (upd Gz k (some f')) GO) := hI.ad.turn hI.hk hI.ptr hI.hG hbut (by rw [← e1]; exact hblk)
              have HM : Hid (Mixed GL GO (k + 1) (upd Gz k (some f'))) := e2
              clear hblk hbut hI e1 e2
              go_wp2
              go_roundw
              case rel => exact ⟨k + 1, _, _, by omega, by go_num, HA.out, HM.out⟩
              case measure => simp [intOf]; omega
    · obtain rfl : k = 54 := by omega
      have k1 := hA.cntL
      have k2 := hA.cntO
      have k3 := hA.fz 54
      have HA : Hid (AD w0 (wr.setCell ⟨bl, 54, none⟩ (.int .u64 (IntKind.u64.wrap (lc + oc)))) lo hi lo2 hi2 bl bo D (IntKind.u64.wrap (lc + oc)) DO oc G GO) := hA.count _
      have HM : Hid (∀ r, r < 54 → G r = addRow (GL r) (GO r)) := fun r hr => by rw [hM r hr, if_pos hr]
      clear hA hM hf
      go_wp2
      go_region
      all_goals
        go_wp2
        go_end0
        exact ⟨rfl, D, G, HA.out.drewN _, HM.out⟩

end Go.Proofs.Qxb6601538a
