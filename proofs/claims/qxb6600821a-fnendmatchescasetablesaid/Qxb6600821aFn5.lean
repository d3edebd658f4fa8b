/-
  FnEndMatchesCaseTable (5): the walk.
-/
import Derived.Test.Qxb6600821aFnEnd
namespace Go.Proofs.Qxb6600821a
open Go Go.RowKit
set_option linter.unusedVariables false
set_option linter.unusedSimpArgs false

set_option maxHeartbeats 2000000 in
theorem fn5_tag (b0 : Option Addr) (nb cb : Nat) (f : Nat → Int) (dep : Int) (ao : Option Addr) (n cap : Nat) (ss : Nat → ByteArray) (w : World)
    (hnb : nb ≤ 9223372036854775807) (hn : n ≤ 9223372036854775807) (hbn : b0 = none → nb = 0 ∧ cb = 0) (han : ao = none → n = 0 ∧ cap = 0)
    (hb : SeenB w b0 nb f) (hs : SeenS w ao n ss) (hsz : ∀ j, j < n → (ss j).size ≤ 9223372036854775807) :
    Calls Try.prog 5 #[.slice b0 nb cb, .int .i64 dep, .slice ao n cap, .bool true] w fun e w' => e = .returned (.bool true) ∧ Below w.heap.size w w' := by
  obtain ⟨i0, hi, hz0, hz1, hz2⟩ := info_parts Try.info5
  go_enter Try.func5, Try.ntmps5
  go_wp2_with fail
  refine (bytes17_any b0 nb cb dep ao n cap true ss w hn hnb hs hsz).mono ?_
  rintro e w' ⟨⟨r, rfl⟩, rfl⟩
  cases r
  · go_wp2
    go_ret
    exact ⟨rfl, Below.refl _ _⟩
  by_cases h1 : 1048576 < nb
  · go_wp2
    go_ret
    exact ⟨rfl, Below.refl _ _⟩
  by_cases h2 : 65536 < n
  · go_wp2
    go_ret
    exact ⟨rfl, Below.refl _ _⟩
  go_wp2_with fail
  refine (budget_any ao n cap ss (1048576 - (nb : Int)) w' hn (by omega) (by omega) hs hsz).mono ?_
  rintro e w' ⟨r, rfl, rfl, hr0, hr1, hok⟩
  by_cases hneg : r < 0
  · clear hok
    go_wp2
    go_ret
    exact ⟨rfl, Below.refl _ _⟩
  obtain ⟨_, hok⟩ := hok (by omega)
  have hsz' : ∀ j, j < n → (ss j).size ≤ 1048576 := fun j hj => by have := hok j hj; omega
  clear hok hsz
  by_cases hd0 : dep < -65536
  · go_wp2
    go_ret
    exact ⟨rfl, Below.refl _ _⟩
  by_cases hd1 : 65536 < dep
  · go_wp2
    go_ret
    exact ⟨rfl, Below.refl _ _⟩
  by_cases hn0 : n = 0
  · subst hn0
    go_wp2
    go_ret
    exact ⟨rfl, Below.refl _ _⟩
  go_wp2_with fail
  refine (cloneBytes_any b0 nb cb f w' (by omega) hbn hb).mono ?_
  rintro e w1 ⟨bo, bc, rfl, hown1, hg1⟩
  obtain ⟨ab, ao0, rfl, hcs⟩ := hs (by omega)
  have hs1 : SeenS w1 (some ⟨ab, ao0, none⟩) n ss := fun _ => ⟨ab, ao0, rfl, fun j hj => hg1.cell (hcs j hj) (by simp)⟩
  clear hs hcs hb hbn han
  go_wp2_with fail
  refine (cloneStrings_some _ n cap ss w1 (by omega) hs1).mono ?_
  rintro e w2 ⟨rfl, hown2, hg2⟩
  clear hs1
  go_wp2_with fail
  refine (cloneStrings_some _ n n ss w2 (by omega) (seenS_of (cells_of_own hown2))).mono ?_
  rintro e w3 ⟨rfl, hown3, hg3⟩
  have hC := Cl.mk' (by omega) hown1 hg1 hown2 hg2 hown3 hg3
  clear hown1 hown2 hown3 hg1 hg2 hg3
  generalize w1.heap.size = B1 at hC ⊢
  generalize w2.heap.size = B2 at hC ⊢
  clear w1 w2
  go_wp2_with (at_make; refine wpList_make_own _ rfl _ _ 29 rfl w3.heap.size 5 i0 (.int .u8 0) 1 Try.underlying29 hi hz0 hz1 _ _ _ nb rfl rfl rfl (by rw [hz2]; omega) (by unfold maxLen; omega) (Nat.le_refl _) ?_)
  intro w4 hown4 hg4
  have hW : Wt w3 w3.heap.size w4 _ 0 [] := ⟨hown4, below_of_grownBy hg4 (Nat.le_refl _) (fun k hk => by cases hk), rfl⟩
  have hbl := hW.baseLe
  have hS := src_own (hW.cl hC).1 (rowB_one f nb)
  generalize w3.heap.size = B3 at hW hbl ⊢
  clear hown4 hg4
  go_wp2_with (at_builtin; refine wpList_append_src _ rfl (.tmp 57) (.tmp 58) 29 29 rfl B3 5 i0 (.int .u8 0) 1 1 Try.underlying29 hi hz0 hz1 hz2 rfl _ 0 _ rfl hW.own _ nb _ rfl hS (by unfold maxLen; omega) (by omega) hbl ?_)
  intro v5 w5 hown5 hg5 hat5
  have hW5 := hW.grow hown5 hg5
  clear hown5 hg5 hat5 hS hbl hW
  have hbl := hW5.baseLe
  go_wp2_with (at_builtin; refine wpList_append_srcP _ rfl (.tmp 61) (.tmp 62) 29 29 rfl B3 5 i0 (.int .u8 0) 1 1 Try.underlying29 hi hz0 hz1 hz2 rfl v5 _ _ rfl (hW5.own.alloc _) _ 3 [.int .u8 47, .int .u8 62, .int .u8 10] rfl (Src.ofSlice _ Try.underlying29 ⟨w5.heap.size, 0, none⟩ 3 3 _ rfl (World.news_of_block (heap_alloc_new w5 _)) one3) (by omega) (by unfold maxLen; omega) (by omega) (by simp; omega) ?_)
  intro g6 c6 w6 hown6 hg6 hat6
  have hW6 := hW5.growA hown6 hg6
  clear hown6 hg6 hat6 hW5 hbl
  have hcl := hW6.cl hC
  have hnm := hcl.2.1 (n - 1) (by omega)
  have HB : Hid (w'.heap.size ≤ w6.heap.size) := show _ ≤ _ from Nat.le_trans hC.gr.size hW6.be.size
  go_wp2_with fail
  refine (zzend_tag w'.heap.size bo nb bc dep B1 n n (ss (n - 1)) _ w6 hcl.1 HB.out (by omega) (by omega) (by omega) (Nat.le_refl _) hnm).mono ?_
  rintro e w7 ⟨v7, rfl, hown7, hg7, hmv7⟩
  have hZ := Zz.mk' hW6 hC hown7 hg7
  clear hW6 hC hown7 hg7 hmv7 hcl hnm HB hsz'
  have HALL : Hid (AllB _) := (AllB.row f nb).append (AllB.three 47 62 10)
  have hlen : ((n - 1 : Nat) : Int) = (n : Int) - 1 := by omega
  go_wp2
  go_loopw [16] (fun i wr => ∃ k q : Nat, k ≤ n - 1 ∧ i = .int .i64 k ∧ wr = w7.drewN q) (fun i _ => n - (intOf i).toNat)
  case atStart => exact ⟨0, 0, Nat.zero_le _, rfl, rfl⟩
  case round =>
    obtain ⟨k, q, hk, rfl, rfl⟩ := hrel
    by_cases hlt : k < n - 1
    · have e1 := hZ.co k (by omega)
      have e2 := hZ.ck k (by omega)
      have b0 : (0 : Int) ≤ (k : Int) := by omega
      have b1 : (k : Int) < ((n - 1 : Nat) : Int) := by omega
      have b2 : (k : Int) < (n : Int) := by omega
      have b3 : (k : Int) < (n : Int) - 1 := by omega
      clear hZ
      go_wp2
      go_quiet (fail)
      go_wp2
      go_roundw
      case rel => exact ⟨k + 1, _, by omega, by go_num, rfl⟩
      case measure => simp [intOf]; omega
    · go_wp2_with fail
      refine (hZ.equal (by omega) (by omega) HALL.out q).mono ?_
      rintro e w8 ⟨rfl, hbe⟩
      clear hZ
      go_wp2
      go_ret
      exact ⟨rfl, hbe⟩

end Go.Proofs.Qxb6600821a
