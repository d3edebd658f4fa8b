/-
  b1CloneBytes (19), b1CloneStrings (20), b1AppendSpaces (21).
-/
import Derived.Test.Qxb6600821aReads
import Derived.WalkSpells
namespace Go.Proofs.Qxb6600821a
open Go Go.RowKit
set_option linter.unusedVariables false
set_option linter.unusedSimpArgs false

theorem Try.info5 : (Try.prog.info? 5).map (fun i => (i.zero, i.size, i.bytes)) = some (some (.int .u8 0), 1, 1) := by kernel_rfl
theorem Try.info9 : (Try.prog.info? 9).map (fun i => (i.zero, i.size, i.bytes)) = some (some (.string ByteArray.empty), 1, 16) := by kernel_rfl

/-- The first n values of a sequence. -/
def rowOf (g : Nat → Value) (n : Nat) : List Value := (List.range n).map g
theorem rowOf_length (g : Nat → Value) (n : Nat) : (rowOf g n).length = n := by simp [rowOf]
theorem rowOf_get (g : Nat → Value) (n j : Nat) (h : j < n) : (rowOf g n)[j]? = some (g j) := by simp [rowOf, h]
theorem rowOf_eq {g : Nat → Value} {n : Nat} {ys : List Value} (hl : ys.length = n) (h : ∀ j, j < n → ys[j]? = some (g j)) : ys = rowOf g n := by
  apply List.ext_getElem?
  intro j
  by_cases hj : j < n
  · rw [h j hj, rowOf_get g n j hj]
  · rw [List.getElem?_eq_none (by omega), List.getElem?_eq_none (by rw [rowOf_length]; omega)]
theorem set_step {g : Nat → Value} {ys : List Value} {k : Nat} (hk : k < ys.length) (h : ∀ j, j < k → ys[j]? = some (g j)) : ∀ j, j < k + 1 → (ys.set k (g k))[j]? = some (g j) := by
  intro j hj
  rw [List.getElem?_set]
  by_cases e : k = j
  · subst e; simp [hk]
  · rw [if_neg e]; exact h j (by omega)

/-- bytes as they are seen in memory -/
def SeenB (w : World) (ao : Option Addr) (n : Nat) (f : Nat → Int) : Prop :=
  0 < n → ∃ b off, ao = some ⟨b, off, none⟩ ∧ ∀ j, j < n → w.cell? ⟨b, off + j, none⟩ = some (.int .u8 (f j))

theorem clone_rel {w wr : World} {e : TypeId} {n k : Nat} {ys : List Value} {g : Nat → Value} (hk : k < n)
    (hown : wr.ownsRow w.heap.size e 1 (.slice (some ⟨w.heap.size, 0, none⟩) n n) n ys) (hy : ∀ j, j < k → ys[j]? = some (g j)) (hg : w.grownBy wr none) :
    (wr.setCell ⟨w.heap.size, k, none⟩ (g k)).ownsRow w.heap.size e 1 (.slice (some ⟨w.heap.size, 0, none⟩) n n) n (ys.set k (g k)) ∧ (∀ j, j < k + 1 → (ys.set k (g k))[j]? = some (g j)) ∧
      w.grownBy (wr.setCell ⟨w.heap.size, k, none⟩ (g k)) none := by
  have s := hown.stored k (g k)
  refine ⟨s.1, set_step (by have := hown.1; omega) hy, grownBy_trans hg s.2 (.inr fun m hm => by cases hm; exact Nat.le_refl _)⟩

set_option maxHeartbeats 400000 in
theorem cloneBytes_some (a : Addr) (n cap : Nat) (f : Nat → Int) (w : World) (hn : n ≤ 1048576) (hs : SeenB w (some a) n f) :
    Calls Try.prog 19 #[.slice (some a) n cap] w fun e w' => e = .returned (.slice (some ⟨w.heap.size, 0, none⟩) n n) ∧ w'.ownsRow w.heap.size 5 1 (.slice (some ⟨w.heap.size, 0, none⟩) n n) n (rowOf (fun j => .int .u8 (f j)) n) ∧ w.grownBy w' none := by
  obtain ⟨i0, hi, hz0, hz1, hz2⟩ := info_parts Try.info5
  have hq : ∀ (w : World) (a : Option Addr) (n c : Nat), (binOp .eql 29 (.slice a n c) (.slice none 0 0)).run Try.prog w = .ok (.bool a.isNone) w := fun w a n c => Lib.run_eql_slice_nil w _ _ a n c 0 0 Try.underlying29
  go_enter Try.func19, Try.ntmps19
  go_wp2_with (at_make; refine wpList_make_full _ rfl _ _ 29 rfl w.heap.size 5 i0 (.int .u8 0) 1 Try.underlying29 hi hz0 hz1 _ _ _ _ n rfl rfl rfl rfl (by rw [hz2]; omega) (by unfold maxLen; omega) (Nat.le_refl _) ?_)
  intro w1 hown1 hgrow1
  go_wp2
  go_loopw [4] (fun i wr => ∃ (k : Nat) (ys : List Value), k ≤ n ∧ i = .int .i64 k ∧ wr.ownsRow w.heap.size 5 1 (.slice (some ⟨w.heap.size, 0, none⟩) n n) n ys ∧ (∀ j, j < k → ys[j]? = some (.int .u8 (f j))) ∧ w.grownBy wr none) (fun i _ => n - (intOf i).toNat)
  case atStart => exact ⟨0, _, Nat.zero_le _, rfl, hown1, fun j hj => by omega, hgrow1⟩
  case round =>
    obtain ⟨k, ys, hk, rfl, hown, hy, hgr⟩ := hrel
    clear hown1 hgrow1
    by_cases hlt : k < n
    · obtain ⟨b, off, hab, hc⟩ := hs (by omega)
      obtain rfl := Option.some.inj hab
      clear hab
      have hck : wr.cell? ⟨b, off + k, none⟩ = some (.int .u8 (f k)) := hgr.cell (hc k hlt) (by simp)
      have hfz := hown.frozenAt k
      have hat : (wr.cell? ⟨w.heap.size, k, none⟩).isSome = true := by rw [hown.cellAt k (by omega), List.getElem?_eq_getElem (by have := hown.1; omega)]; rfl
      obtain ⟨old, hold⟩ := Option.isSome_iff_exists.1 hat
      have R := clone_rel (g := fun j => .int .u8 (f j)) hlt hown hy hgr
      have HR : Hid _ := R
      clear R hat hc hown hy hgr
      go_wp2
      go_roundw
      case rel => exact ⟨k + 1, _, by omega, by go_num, HR.out.1, HR.out.2.1, HR.out.2.2⟩
      case measure => simp [intOf]; omega
    · have hkn : k = n := by omega
      have HR : Hid (ys = rowOf (fun j => .int .u8 (f j)) n) := rowOf_eq (by have := hown.1; omega) (fun j hj => hy j (by omega))
      clear hy hkn
      go_wp2
      go_ret
      exact ⟨rfl, by rw [← HR.out]; exact hown, hgr⟩

theorem cloneBytes_nil (w : World) : Calls Try.prog 19 #[.slice none 0 0] w fun e w' => e = .returned (.slice none 0 0) ∧ w' = w := by
  have hq : ∀ (w : World) (a : Option Addr) (n c : Nat), (binOp .eql 29 (.slice a n c) (.slice none 0 0)).run Try.prog w = .ok (.bool a.isNone) w := fun w a n c => Lib.run_eql_slice_nil w _ _ a n c 0 0 Try.underlying29
  go_enter Try.func19, Try.ntmps19
  go_wp2
  go_ret
  exact ⟨rfl, rfl⟩

set_option maxHeartbeats 400000 in
theorem cloneStrings_some (a : Addr) (n cap : Nat) (f : Nat → ByteArray) (w : World) (hn : n ≤ 1048576) (hs : SeenS w (some a) n f) :
    Calls Try.prog 20 #[.slice (some a) n cap] w fun e w' => e = .returned (.slice (some ⟨w.heap.size, 0, none⟩) n n) ∧ w'.ownsRow w.heap.size 9 1 (.slice (some ⟨w.heap.size, 0, none⟩) n n) n (rowOf (fun j => (.string (f j))) n) ∧ w.grownBy w' none := by
  obtain ⟨i0, hi, hz0, hz1, hz2⟩ := info_parts Try.info9
  have hq : ∀ (w : World) (a : Option Addr) (n c : Nat), (binOp .eql 30 (.slice a n c) (.slice none 0 0)).run Try.prog w = .ok (.bool a.isNone) w := fun w a n c => Lib.run_eql_slice_nil w _ _ a n c 0 0 Try.underlying30
  go_enter Try.func20, Try.ntmps20
  go_wp2_with (at_make; refine wpList_make_full _ rfl _ _ 30 rfl w.heap.size 9 i0 (.string ByteArray.empty) 1 Try.underlying30 hi hz0 hz1 _ _ _ _ n rfl rfl rfl rfl (by rw [hz2]; omega) (by unfold maxLen; omega) (Nat.le_refl _) ?_)
  intro w1 hown1 hgrow1
  go_wp2
  go_loopw [4] (fun i wr => ∃ (k : Nat) (ys : List Value), k ≤ n ∧ i = .int .i64 k ∧ wr.ownsRow w.heap.size 9 1 (.slice (some ⟨w.heap.size, 0, none⟩) n n) n ys ∧ (∀ j, j < k → ys[j]? = some (.string (f j))) ∧ w.grownBy wr none) (fun i _ => n - (intOf i).toNat)
  case atStart => exact ⟨0, _, Nat.zero_le _, rfl, hown1, fun j hj => by omega, hgrow1⟩
  case round =>
    obtain ⟨k, ys, hk, rfl, hown, hy, hgr⟩ := hrel
    clear hown1 hgrow1
    by_cases hlt : k < n
    · obtain ⟨b, off, hab, hc⟩ := hs (by omega)
      obtain rfl := Option.some.inj hab
      clear hab
      have hck : wr.cell? ⟨b, off + k, none⟩ = some ((.string (f k))) := hgr.cell (hc k hlt) (by simp)
      have hfz := hown.frozenAt k
      have hat : (wr.cell? ⟨w.heap.size, k, none⟩).isSome = true := by rw [hown.cellAt k (by omega), List.getElem?_eq_getElem (by have := hown.1; omega)]; rfl
      obtain ⟨old, hold⟩ := Option.isSome_iff_exists.1 hat
      have R := clone_rel (g := fun j => (.string (f j))) hlt hown hy hgr
      have HR : Hid _ := R
      clear R hat hc hown hy hgr
      go_wp2
      go_roundw
      case rel => exact ⟨k + 1, _, by omega, by go_num, HR.out.1, HR.out.2.1, HR.out.2.2⟩
      case measure => simp [intOf]; omega
    · have hkn : k = n := by omega
      have HR : Hid (ys = rowOf (fun j => (.string (f j))) n) := rowOf_eq (by have := hown.1; omega) (fun j hj => hy j (by omega))
      clear hy hkn
      go_wp2
      go_ret
      exact ⟨rfl, by rw [← HR.out]; exact hown, hgr⟩

theorem cloneStrings_nil (w : World) : Calls Try.prog 20 #[.slice none 0 0] w fun e w' => e = .returned (.slice none 0 0) ∧ w' = w := by
  have hq : ∀ (w : World) (a : Option Addr) (n c : Nat), (binOp .eql 30 (.slice a n c) (.slice none 0 0)).run Try.prog w = .ok (.bool a.isNone) w := fun w a n c => Lib.run_eql_slice_nil w _ _ a n c 0 0 Try.underlying30
  go_enter Try.func20, Try.ntmps20
  go_wp2
  go_ret
  exact ⟨rfl, rfl⟩


theorem replicate_snoc (x : Value) (k : Nat) : List.replicate k x ++ [x] = List.replicate (k + 1) x := by
  rw [List.replicate_succ']

set_option maxHeartbeats 400000 in
/-- k spaces appended, one at a time (none where k is not positive). -/
theorem appendSpaces_any (base : Nat) (v : Value) (n : Nat) (xs : List Value) (k : Int) (w : World) (hk : k ≤ 1048576) (hn : n ≤ 1099511627776) (hbase : base ≤ w.heap.size) (hown : w.ownsRow base 5 1 v n xs) :
    Calls Try.prog 21 #[v, .int .i64 k] w fun e w' => ∃ v', e = .returned v' ∧ w'.ownsRow base 5 1 v' (n + k.toNat) (xs ++ List.replicate k.toNat (.int .u8 32)) ∧ w.grownBy w' v.ownBlock ∧ Moved w v v' := by
  obtain ⟨i0, hi, hz0, hz1, hz2⟩ := info_parts Try.info5
  go_enter Try.func21, Try.ntmps21
  go_wp2
  go_loopw [0, 5] (fun u i wr => ∃ (c : Nat), (c : Int) ≤ max k 0 ∧ i = .int .i64 c ∧ wr.ownsRow base 5 1 u (n + c) (xs ++ List.replicate c (.int .u8 32)) ∧ w.grownBy wr v.ownBlock ∧ Moved w v u) (fun _ i _ => (k - intOf i).toNat)
  case atStart => exact ⟨0, by omega, rfl, by simpa using hown, grownBy_refl _ _, Moved.refl _ _⟩
  case round =>
    obtain ⟨c, hc, rfl, ho, hg, hm⟩ := hrel
    by_cases hlt : (c : Int) < k
    · have hsz := hg.size
      go_wp2_with (at_builtin; refine wpList_append_src _ rfl _ _ 29 29 rfl base 5 i0 (.int .u8 0) 1 1 Try.underlying29 hi hz0 hz1 hz2 rfl _ (n + c) _ rfl (ho.alloc _) _ 1 [.int .u8 32] rfl (Src.ofSlice _ Try.underlying29 ⟨wr.heap.size, 0, none⟩ 1 1 [.int .u8 32] rfl (World.news_of_block (heap_alloc_new wr _)) (by simp; rfl)) (by unfold maxLen; omega) (by omega) (by simp; omega) ?_)
      intro v1 w1 hown1 hgrow1 hat1
      have R := own_step hg hm hgrow1 hat1 (by omega)
      have HO : Hid (w1.ownsRow base 5 1 v1 (n + c + 1) (xs ++ List.replicate (c + 1) (.int .u8 32))) := by rw [← replicate_snoc]; exact hown1
      have HR : Hid _ := R
      clear hown1 hgrow1 hat1 ho hg hm R
      go_wp2
      go_roundw
      case rel => exact ⟨c + 1, by omega, by go_num, HO.out, HR.out.1, HR.out.2⟩
      case measure => simp [intOf]; omega
    · have hck : (c : Int).toNat = k.toNat := by omega
      have hck' : c = k.toNat := by omega
      have HO : Hid (wr.ownsRow base 5 1 u0 (n + k.toNat) (xs ++ List.replicate k.toNat (.int .u8 32))) := by rw [← hck']; exact ho
      clear hck hck' ho
      go_wp2
      go_ret
      exact ⟨_, rfl, HO.out, hg, hm⟩
end Go.Proofs.Qxb6600821a
