/-
  FnEndMatchesCaseTable (5): the walk.
-/
import Derived.Test.Qxb6600821aFnEnd
namespace Go.Proofs.Qxb6600821a
open Go Go.RowKit
set_option linter.unusedVariables false
set_option linter.unusedSimpArgs false

set_option maxHeartbeats 2000000 in
theorem fn5_plain (b0 : Option Addr) (nb cb : Nat) (f : Nat → Int) (dep : Int) (ao : Option Addr) (n cap : Nat) (ss : Nat → ByteArray) (w : World)
    (hnb : nb ≤ 9223372036854775807) (hn : n ≤ 9223372036854775807) (hbn : b0 = none → nb = 0 ∧ cb = 0) (han : ao = none → n = 0 ∧ cap = 0)
    (hb : SeenB w b0 nb f) (hs : SeenS w ao n ss) (hsz : ∀ j, j < n → (ss j).size ≤ 9223372036854775807) :
    Calls Try.prog 5 #[.slice b0 nb cb, .int .i64 dep, .slice ao n cap, .bool false] w fun e w' => e = .returned (.bool true) ∧ Below w.heap.size w w' := by
  obtain ⟨i0, hi, hz0, hz1, hz2⟩ := info_parts Try.info5
  go_enter Try.func5, Try.ntmps5
  go_wp2_with fail
  refine (bytes17_any b0 nb cb dep ao n cap false ss w hn hnb hs hsz).mono ?_
  rintro e w' ⟨⟨r, rfl⟩, rfl⟩
  cases r
  · go_wp2
    go_ret
    exact ⟨rfl, Below.refl _ _⟩
  by_cases h1 : 1048576 < nb
  · go_wp2
    go_ret
    exact ⟨rfl, Below.refl _ _⟩
  by_cases h2 : 65536 < n
  · go_wp2
    go_ret
    exact ⟨rfl, Below.refl _ _⟩
  go_wp2_with fail
  refine (budget_any ao n cap ss (1048576 - (nb : Int)) w' hn (by omega) (by omega) hs hsz).mono ?_
  rintro e w' ⟨r, rfl, rfl, hr0, hr1, hok⟩
  by_cases hneg : r < 0
  · clear hok
    go_wp2
    go_ret
    exact ⟨rfl, Below.refl _ _⟩
  obtain ⟨_, hok⟩ := hok (by omega)
  have hsz' : ∀ j, j < n → (ss j).size ≤ 1048576 := fun j hj => by have := hok j hj; omega
  clear hok hsz
  by_cases hd0 : dep < -65536
  · go_wp2
    go_ret
    exact ⟨rfl, Below.refl _ _⟩
  by_cases hd1 : 65536 < dep
  · go_wp2
    go_ret
    exact ⟨rfl, Below.refl _ _⟩
  by_cases hn0 : n = 0
  · subst hn0
    go_wp2
    go_ret
    exact ⟨rfl, Below.refl _ _⟩
  go_wp2_with fail
  refine (cloneBytes_any b0 nb cb f w' (by omega) hbn hb).mono ?_
  rintro e w1 ⟨bo, bc, rfl, hown1, hg1⟩
  obtain ⟨ab, ao0, rfl, hcs⟩ := hs (by omega)
  have hs1 : SeenS w1 (some ⟨ab, ao0, none⟩) n ss := fun _ => ⟨ab, ao0, rfl, fun j hj => hg1.cell (hcs j hj) (by simp)⟩
  clear hs hcs hb hbn han
  go_wp2_with fail
  refine (cloneStrings_some _ n cap ss w1 (by omega) hs1).mono ?_
  rintro e w2 ⟨rfl, hown2, hg2⟩
  clear hs1
  go_wp2_with fail
  refine (cloneStrings_some _ n n ss w2 (by omega) (seenS_of (cells_of_own hown2))).mono ?_
  rintro e w3 ⟨rfl, hown3, hg3⟩
  have hC := Cl.mk' (by omega) hown1 hg1 hown2 hg2 hown3 hg3
  clear hown1 hown2 hown3 hg1 hg2 hg3
  generalize w1.heap.size = B1 at hC ⊢
  generalize w2.heap.size = B2 at hC ⊢
  clear w1 w2
  go_wp2_with (at_make; refine wpList_make_own _ rfl _ _ 29 rfl w3.heap.size 5 i0 (.int .u8 0) 1 Try.underlying29 hi hz0 hz1 _ _ _ nb rfl rfl rfl (by rw [hz2]; omega) (by unfold maxLen; omega) (Nat.le_refl _) ?_)
  intro w4 hown4 hg4
  have hW : Wt w3 w3.heap.size w4 _ 0 [] := ⟨hown4, below_of_grownBy hg4 (Nat.le_refl _) (fun k hk => by cases hk), rfl⟩
  have hbl := hW.baseLe
  have hS := src_own (hW.cl hC).1 (rowB_one f nb)
  generalize w3.heap.size = B3 at hW hbl ⊢
  clear hown4 hg4
  go_wp2_with (at_builtin; refine wpList_append_src _ rfl (.tmp 57) (.tmp 58) 29 29 rfl B3 5 i0 (.int .u8 0) 1 1 Try.underlying29 hi hz0 hz1 hz2 rfl _ 0 _ rfl hW.own _ nb _ rfl hS (by unfold maxLen; omega) (by omega) hbl ?_)
  intro v5 w5 hown5 hg5 hat5
  have hW5 := hW.grow hown5 hg5
  clear hown5 hg5 hat5 hS hbl hW
  have hbl := hW5.baseLe
  go_wp2_with fail
  refine (appendSpaces_any B3 v5 nb _ (2 * (dep + (n : Int) - 1)) w5 (by omega) (by omega) hbl hW5.own).mono ?_
  rintro e w6 ⟨v6, rfl, hown6, hg6, hmv6⟩
  have hW6 := hW5.grow hown6 hg6
  clear hown6 hg6 hmv6 hW5 hbl
  obtain ⟨sp, hsp⟩ : ∃ sp, sp = (2 * (dep + (n : Int) - 1)).toNat := ⟨_, rfl⟩
  rw [← hsp] at hW6
  have hsp1 : sp ≤ 300000 := by omega
  have HSP : Hid (sp = (2 * (dep + ((n - 1 : Nat) : Int))).toNat) := by rw [hsp]; exact congrArg Int.toNat (by omega)
  clear hsp
  have hbl := hW6.baseLe
  go_wp2_with (at_builtin; refine wpList_append_srcP _ rfl (.tmp 71) (.tmp 72) 29 29 rfl B3 5 i0 (.int .u8 0) 1 1 Try.underlying29 hi hz0 hz1 hz2 rfl v6 _ _ rfl (hW6.own.alloc _) _ 2 [.int .u8 60, .int .u8 47] rfl (Src.ofSlice _ Try.underlying29 ⟨w6.heap.size, 0, none⟩ 2 2 _ rfl (World.news_of_block (heap_alloc_new w6 _)) one2) (by omega) (by unfold maxLen; omega) (by omega) (by simp; omega) ?_)
  intro g7 c7 w7 hown7 hg7 hat7
  have hW7 := hW6.growA hown7 hg7
  clear hown7 hg7 hat7 hW6 hbl
  have hbl := hW7.baseLe
  have hkm := (hW7.cl hC).2.2 (n - 1) (by omega)
  have hsm := hsz' (n - 1) (by omega)
  have n0 : (0 : Int) ≤ (n : Int) - 1 := by omega
  have n1 : (n : Int) - 1 < (n : Int) := by omega
  go_wp2_with (at_builtin; refine wpList_append_srcP _ rfl (.tmp 74) (.tmp 79) 29 9 rfl B3 5 i0 (.int .u8 0) 1 1 Try.underlying29 hi hz0 hz1 hz2 rfl _ _ _ rfl hW7.own _ (ss (n - 1)).size _ rfl (Src.ofString _ Try.underlying9 _) (by omega) (by unfold maxLen; omega) (by omega) hbl ?_)
  intro g8 c8 w8 hown8 hg8 hat8
  have hW8 := hW7.grow hown8 hg8
  clear hown8 hg8 hat8 hW7 hbl hkm n0 n1
  have hbl := hW8.baseLe
  go_wp2_with (at_builtin; refine wpList_append_srcP _ rfl (.tmp 81) (.tmp 82) 29 29 rfl B3 5 i0 (.int .u8 0) 1 1 Try.underlying29 hi hz0 hz1 hz2 rfl _ _ _ rfl (hW8.own.alloc _) _ 2 [.int .u8 62, .int .u8 10] rfl (Src.ofSlice _ Try.underlying29 ⟨w8.heap.size, 0, none⟩ 2 2 _ rfl (World.news_of_block (heap_alloc_new w8 _)) one2) (by omega) (by unfold maxLen; omega) (by omega) (by simp; omega) ?_)
  intro g9 c9 w9 hown9 hg9 hat9
  have hW9 := hW8.growA hown9 hg9
  clear hown9 hg9 hat9 hW8 hbl
  have hcl := hW9.cl hC
  have hnm := hcl.2.1 (n - 1) (by omega)
  have HB : Hid (w'.heap.size ≤ w9.heap.size) := show _ ≤ _ from Nat.le_trans hC.gr.size hW9.be.size
  go_wp2_with fail
  refine (zzend_plain w'.heap.size bo nb bc dep B1 n n (ss (n - 1)) _ w9 hcl.1 HB.out (by omega) (by omega) (by omega) (Nat.le_refl _) (by omega) (by omega) hnm hsm).mono ?_
  rintro e w10 ⟨v10, rfl, hown10, hg10, hmv10⟩
  have e1 : nb + (plainBytes dep (n - 1) (ss (n - 1))).length = nb + sp + 2 + (ss (n - 1)).size + 2 := by rw [plainBytes_length, ← HSP.out]; omega
  have e2 : rowOf (fun j => .int .u8 (f j)) nb ++ plainBytes dep (n - 1) (ss (n - 1)) = rowOf (fun j => .int .u8 (f j)) nb ++ (List.replicate sp (.int .u8 32) ++ ([.int .u8 60, .int .u8 47] ++ (byteCells (ss (n - 1)) ++ [.int .u8 62, .int .u8 10]))) := by rw [plainBytes, ← HSP.out]
  have HALL : Hid (AllB _) := (AllB.row f nb).append (AllB.plain dep (n - 1) (ss (n - 1)))
  rw [e1, e2] at hown10
  rw [e2] at HALL
  have hZ := Zz.mk' hW9 hC hown10 hg10
  clear hW9 hC hown10 hg10 hmv10 hcl hnm HB hsz' e1 e2 HSP
  have hlen : ((n - 1 : Nat) : Int) = (n : Int) - 1 := by omega
  go_wp2
  go_loopw [16] (fun i wr => ∃ k q : Nat, k ≤ n - 1 ∧ i = .int .i64 k ∧ wr = w10.drewN q) (fun i _ => n - (intOf i).toNat)
  case atStart => exact ⟨0, 0, Nat.zero_le _, rfl, rfl⟩
  case round =>
    obtain ⟨k, q, hk, rfl, rfl⟩ := hrel
    by_cases hlt : k < n - 1
    · have e1 := hZ.co k (by omega)
      have e2 := hZ.ck k (by omega)
      have b0 : (0 : Int) ≤ (k : Int) := by omega
      have b1 : (k : Int) < ((n - 1 : Nat) : Int) := by omega
      have b2 : (k : Int) < (n : Int) := by omega
      have b3 : (k : Int) < (n : Int) - 1 := by omega
      clear hZ
      go_wp2
      go_quiet (fail)
      go_wp2
      go_roundw
      case rel => exact ⟨k + 1, _, by omega, by go_num, rfl⟩
      case measure => simp [intOf]; omega
    · go_wp2_with fail
      refine (hZ.equal (by omega) (by omega) HALL.out q).mono ?_
      rintro e w11 ⟨rfl, hbe⟩
      clear hZ
      go_wp2
      go_ret
      exact ⟨rfl, hbe⟩


end Go.Proofs.Qxb6600821a
