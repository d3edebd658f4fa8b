/-
  ZZEnd (22).
-/
import Derived.Test.Qxb6600821aEnd
namespace Go.Proofs.Qxb6600821a
open Go Go.RowKit
set_option linter.unusedVariables false
set_option linter.unusedSimpArgs false

theorem Try.info55 : (Try.prog.info? 55).map (fun i => (i.size, i.bytes)) = some (4, 64) := by kernel_rfl

/-- The writer as it is laid. -/
theorem wi_start {base : Nat} {w : World} {v : Value} {dep : Int} {vo : Value} {tag : Bool} {m : Nat} {xs : List Value} (hown : w.ownsRow base 5 1 v m xs) (hbase : base ≤ w.heap.size) :
    WI base w.heap.size w.heap.size v.ownBlock w (w.alloc (.cells #[v, .int .i64 dep, vo, .bool tag] 55)) v dep vo tag m xs :=
  ⟨heap_alloc_new w _, hown.alloc _, Upto.of (World.grownBy_alloc w _ none) (.inr fun _ h => by cases h) (Nat.le_refl _), .inl rfl, Nat.le_refl _, Nat.le_refl _, hbase⟩

set_option maxHeartbeats 1000000 in
theorem zzend_of (base : Nat) (bo : Option Addr) (m bc : Nat) (dep : Int) (g n oc : Nat) (tag : Bool) (w : World) (m' : Nat) (xs' : List Value)
    (hend : Hid (Calls Try.prog 33 #[.pointer (some ⟨w.heap.size, 0, none⟩)] (w.alloc (.cells #[.slice bo m bc, .int .i64 dep, .slice (some ⟨g, 0, none⟩) n oc, .bool tag] 55)) fun e w' => e = .returned (.tuple #[]) ∧
      ∃ v', WI base w.heap.size w.heap.size (Value.slice bo m bc).ownBlock w w' v' dep (.slice (some ⟨g, 0, none⟩) (n - 1) oc) false m' xs')) :
    Calls Try.prog 22 #[.slice bo m bc, .int .i64 dep, .slice (some ⟨g, 0, none⟩) n oc, .bool tag] w fun e w' => ∃ v', e = .returned (.tuple #[v', .int .i64 dep, .slice (some ⟨g, 0, none⟩) (n - 1) oc, .bool false]) ∧
      w'.ownsRow base 5 1 v' m' xs' ∧ w.grownBy w' (Value.slice bo m bc).ownBlock ∧ Moved w (.slice bo m bc) v' := by
  go_enter Try.func22, Try.ntmps22
  go_wp2_with fail
  refine hend.out.mono ?_
  rintro e w2 ⟨rfl, v2, hI⟩
  clear hend
  have k0 := hI.c0
  have k1 := hI.c1
  have k2 := hI.c2
  have k3 := hI.c3
  have H1 : Hid (w2.ownsRow base 5 1 v2 m' xs') := hI.own
  have H2 : Hid (w.grownBy w2 (Value.slice bo m bc).ownBlock) := hI.up.grown
  have H3 : Hid (Moved w (.slice bo m bc) v2) := hI.lies
  clear hI
  go_wp2
  go_quiet (fail)
  go_wp2
  refine bodyPost_ret (v := .tuple #[v2, .int .i64 dep, .slice (some ⟨g, 0, none⟩) (n - 1) oc, .bool false]) (by simp [results, Try.results22, go_sem]) rfl ⟨v2, rfl, H1.out, ?_, H3.out⟩
  exact grownBy_trans H2.out (s := none) ⟨rfl, rfl, rfl, Nat.le_refl _, fun _ _ _ => rfl⟩ (.inr fun _ h => by cases h)

theorem zzend_tag (base : Nat) (bo : Option Addr) (m bc : Nat) (dep : Int) (g n oc : Nat) (nm : ByteArray) (xs : List Value) (w : World) (hown : w.ownsRow base 5 1 (.slice bo m bc) m xs) (hbase : base ≤ w.heap.size)
    (hm : m ≤ 1099511627776) (hn0 : 0 < n) (hn : n ≤ 65536) (hno : n ≤ oc) (hnm : w.cell? ⟨g, n - 1, none⟩ = some (.string nm)) :
    Calls Try.prog 22 #[.slice bo m bc, .int .i64 dep, .slice (some ⟨g, 0, none⟩) n oc, .bool true] w fun e w' => ∃ v', e = .returned (.tuple #[v', .int .i64 dep, .slice (some ⟨g, 0, none⟩) (n - 1) oc, .bool false]) ∧
      w'.ownsRow base 5 1 v' (m + 3) (xs ++ [.int .u8 47, .int .u8 62, .int .u8 10]) ∧ w.grownBy w' (Value.slice bo m bc).ownBlock ∧ Moved w (.slice bo m bc) v' :=
  zzend_of base bo m bc dep g n oc true w _ _ (end_tag base _ _ _ w _ _ dep g n oc nm m xs (wi_start hown hbase) hm hn0 hn hno (by rw [World.cell?_alloc_past _ _ _ (World.block_lt_of_cell? w _ hnm)]; exact hnm))

theorem zzend_plain (base : Nat) (bo : Option Addr) (m bc : Nat) (dep : Int) (g n oc : Nat) (nm : ByteArray) (xs : List Value) (w : World) (hown : w.ownsRow base 5 1 (.slice bo m bc) m xs) (hbase : base ≤ w.heap.size)
    (hm : m ≤ 1099511627000) (hn0 : 0 < n) (hn : n ≤ 65536) (hno : n ≤ oc) (hd0 : -65536 ≤ dep) (hd1 : dep ≤ 65536) (hnm : w.cell? ⟨g, n - 1, none⟩ = some (.string nm)) (hsz : nm.size ≤ 1048576) :
    Calls Try.prog 22 #[.slice bo m bc, .int .i64 dep, .slice (some ⟨g, 0, none⟩) n oc, .bool false] w fun e w' => ∃ v', e = .returned (.tuple #[v', .int .i64 dep, .slice (some ⟨g, 0, none⟩) (n - 1) oc, .bool false]) ∧
      w'.ownsRow base 5 1 v' (m + (plainBytes dep (n - 1) nm).length) (xs ++ plainBytes dep (n - 1) nm) ∧ w.grownBy w' (Value.slice bo m bc).ownBlock ∧ Moved w (.slice bo m bc) v' :=
  zzend_of base bo m bc dep g n oc false w _ _ (end_plain base _ _ _ w _ _ dep g n oc nm m xs (wi_start hown hbase) hm hn0 hn hno hd0 hd1 (by rw [World.cell?_alloc_past _ _ _ (World.block_lt_of_cell? w _ hnm)]; exact hnm) hsz)

end Go.Proofs.Qxb6600821a
