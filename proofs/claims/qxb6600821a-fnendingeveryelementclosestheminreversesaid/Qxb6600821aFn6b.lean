/-
  FnEndingEveryElementClosesThemInReverse (6): the walk, a tag open.
-/
import Derived.Test.Qxb6600821aFn6Parts
namespace Go.Proofs.Qxb6600821a
open Go Go.RowKit
set_option linter.unusedVariables false
set_option linter.unusedSimpArgs false

set_option maxHeartbeats 2000000 in
theorem fn6_tag (b0 : Option Addr) (nb cb : Nat) (f : Nat → Int) (dep : Int) (ao : Option Addr) (n cap : Nat) (ss : Nat → ByteArray) (w : World)
    (hnb : nb ≤ 9223372036854775807) (hn : n ≤ 9223372036854775807) (hbn : b0 = none → nb = 0 ∧ cb = 0) (han : ao = none → n = 0 ∧ cap = 0)
    (hb : SeenB w b0 nb f) (hs : SeenS w ao n ss) (hsz : ∀ j, j < n → (ss j).size ≤ 9223372036854775807) :
    Calls Try.prog 6 #[.slice b0 nb cb, .int .i64 dep, .slice ao n cap, .bool true] w fun e w' => e = .returned (.bool true) ∧ Below w.heap.size w w' := by
  obtain ⟨i0, hi, hz0, hz1, hz2⟩ := info_parts Try.info5
  go_enter Try.func6, Try.ntmps6
  go_wp2_with fail
  refine (bytes24_any b0 nb cb dep ao n cap true ss w hn hnb hs hsz).mono ?_
  rintro e w' ⟨⟨r, rfl⟩, rfl⟩
  cases r
  · go_wp2
    go_ret
    exact ⟨rfl, Below.refl _ _⟩
  by_cases h1 : 1048576 < nb
  · go_wp2
    go_ret
    exact ⟨rfl, Below.refl _ _⟩
  by_cases h2 : 1024 < n
  · go_wp2
    go_ret
    exact ⟨rfl, Below.refl _ _⟩
  go_wp2_with fail
  refine (budget_any ao n cap ss (1048576 - (nb : Int)) w' hn (by omega) (by omega) hs hsz).mono ?_
  rintro e w' ⟨r, rfl, rfl, hr0, hr1, hok⟩
  by_cases hneg : r < 0
  · clear hok
    go_wp2
    go_ret
    exact ⟨rfl, Below.refl _ _⟩
  obtain ⟨_, hok⟩ := hok (by omega)
  have hsz' : ∀ j, j < n → (ss j).size ≤ 1048576 := fun j hj => by have := hok j hj; omega
  clear hok hsz
  by_cases hd0 : dep < -4096
  · go_wp2
    go_ret
    exact ⟨rfl, Below.refl _ _⟩
  by_cases hd1 : 4096 < dep
  · go_wp2
    go_ret
    exact ⟨rfl, Below.refl _ _⟩
  by_cases hn0 : n = 0
  · subst hn0
    go_wp2
    go_ret
    exact ⟨rfl, Below.refl _ _⟩
  go_wp2_with fail
  refine (cloneBytes_any b0 nb cb f w' (by omega) hbn hb).mono ?_
  rintro e w1 ⟨bo, bc, rfl, hown1, hg1⟩
  obtain ⟨ab, ao0, rfl, hcs⟩ := hs (by omega)
  have hs1 : SeenS w1 (some ⟨ab, ao0, none⟩) n ss := fun _ => ⟨ab, ao0, rfl, fun j hj => hg1.cell (hcs j hj) (by simp)⟩
  clear hs hcs hb hbn han
  go_wp2_with fail
  refine (cloneStrings_some _ n cap ss w1 (by omega) hs1).mono ?_
  rintro e w2 ⟨rfl, hown2, hg2⟩
  clear hs1
  go_wp2_with fail
  refine (cloneStrings_some _ n n ss w2 (by omega) (seenS_of (cells_of_own hown2))).mono ?_
  rintro e w3 ⟨rfl, hown3, hg3⟩
  have hC := Cl.mk' (by omega) hown1 hg1 hown2 hg2 hown3 hg3
  clear hown1 hown2 hown3 hg1 hg2 hg3
  generalize w1.heap.size = B1 at hC ⊢
  generalize w2.heap.size = B2 at hC ⊢
  clear w1 w2
  go_wp2_with (at_make; refine wpList_make_own _ rfl _ _ 29 rfl w3.heap.size 5 i0 (.int .u8 0) 1 Try.underlying29 hi hz0 hz1 _ _ _ nb rfl rfl rfl (by rw [hz2]; omega) (by unfold maxLen; omega) (Nat.le_refl _) ?_)
  intro w4 hown4 hg4
  have hW : Wt w3 w3.heap.size w4 _ 0 [] := ⟨hown4, below_of_grownBy hg4 (Nat.le_refl _) (fun k hk => by cases hk), rfl⟩
  have hbl := hW.baseLe
  have hS := src_own (hW.cl hC).1 (rowB_one f nb)
  generalize w3.heap.size = B3 at hW hbl ⊢
  clear hown4 hg4
  go_wp2_with (at_builtin; refine wpList_append_src _ rfl (.tmp 58) (.tmp 59) 29 29 rfl B3 5 i0 (.int .u8 0) 1 1 Try.underlying29 hi hz0 hz1 hz2 rfl _ 0 _ rfl hW.own _ nb _ rfl hS (by unfold maxLen; omega) (by omega) hbl ?_)
  intro v5 w5 hown5 hg5 hat5
  have hW5 := hW.grow hown5 hg5
  clear hown5 hg5 hat5 hS hbl hW
  have hbl := hW5.baseLe
  go_wp2_with (at_builtin; refine wpList_append_srcP _ rfl (.tmp 64) (.tmp 65) 29 29 rfl B3 5 i0 (.int .u8 0) 1 1 Try.underlying29 hi hz0 hz1 hz2 rfl v5 _ _ rfl (hW5.own.alloc _) _ 3 [.int .u8 47, .int .u8 62, .int .u8 10] rfl (Src.ofSlice _ Try.underlying29 ⟨w5.heap.size, 0, none⟩ 3 3 _ rfl (World.news_of_block (heap_alloc_new w5 _)) one3) (by omega) (by unfold maxLen; omega) (by omega) (by simp; omega) ?_)
  intro g0 c0 w0 hown0 hg0 hat0
  have hWt := hW5.growA hown0 hg0
  clear hown0 hg0 hat0 hW5 hbl
  obtain ⟨T, hT⟩ : ∃ T, T = rowOf (fun j => .int .u8 (f j)) nb ++ [.int .u8 47, .int .u8 62, .int .u8 10] ++ closes dep ss (n - 1) := ⟨_, rfl⟩
  have HT : Hid (T = rowOf (fun j => .int .u8 (f j)) nb ++ [.int .u8 47, .int .u8 62, .int .u8 10] ++ closes dep ss (n - 1)) := hT
  clear hT
  go_wp2
  go_loopw [11, 12] (fun u i wr => ∃ (p M : Nat) (z : Int) (xs : List Value), i = .int .i64 z ∧ (p : Int) - 1 ≤ z ∧ z ≤ (p : Int) - 1 ∧ p ≤ n - 1 ∧ Wt w3 B3 wr u M xs ∧ xs ++ closes dep ss p = T ∧ M + p * 2097152 ≤ 1048579 + n * 2097152) (fun _ i _ => (intOf i + 1).toNat)
  case atStart => exact ⟨n - 1, nb + 3, _, _, rfl, by omega, by omega, Nat.le_refl _, hWt, HT.out.symm, by omega⟩
  case round =>
    obtain ⟨p, M, z, xs, rfl, hz3, hz4, hp, hW6, hT, hM⟩ := hrel
    clear hWt
    by_cases hp0 : p = 0
    · subst hp0
      obtain rfl : z = -1 := by omega
      rw [closes_zero, List.append_nil] at hT
      subst hT
      have HALL : Hid (AllB xs) := by rw [HT.out]; exact ((AllB.row f nb).append (AllB.three _ _ _)).append (AllB.closes dep ss (n - 1))
      have hL0 : Lp w' wr wr (.slice bo nb bc) (.slice bo nb bc) nb (rowOf (fun j => .int .u8 (f j)) nb) := ⟨(hW6.cl hC).1, grownBy_refl _ _, Moved.refl _ _⟩
      have HBB : Hid (w'.heap.size ≤ wr.heap.size) := show _ ≤ _ from Nat.le_trans hC.gr.size hW6.be.size
      generalize wr = wz at hW6 hL0 HBB ⊢
      go_wp2
      go_loopw [13, 14, 15, 16, 17] (fun c d o t i wr => ∃ (k r m cc : Nat) (co : Option Addr) (ys : List Value) (tg : Bool), k + r = n ∧ i = .int .i64 k ∧ c = .slice co m cc ∧ d = .int .i64 dep ∧ o = .slice (some ⟨B1, 0, none⟩) r n ∧ t = .bool tg ∧
          Lp w' wz wr (.slice bo nb bc) (.slice co m cc) m ys ∧ Ph dep ss (rowOf (fun j => .int .u8 (f j)) nb) xs k r tg ys ∧ m + r * 2097152 ≤ 1048579 + n * 2097152) (fun _ _ _ _ i _ => n - (intOf i).toNat)
      case atStart => exact ⟨0, n, nb, bc, bo, _, true, by omega, rfl, rfl, rfl, rfl, rfl, hL0, .inl ⟨rfl, rfl, rfl⟩, by omega⟩
      case round =>
        obtain ⟨k, r, m, cc, co, ys, tg, hkr, rfl, rfl, rfl, rfl, rfl, hL, hys, hmr⟩ := hrel
        clear hL0
        rcases hys with ⟨hk0, htg, hyx⟩ | ⟨hk0, htg, hys⟩
        · subst hk0
          subst htg
          subst hyx
          obtain ⟨r, rfl⟩ : ∃ q, r = q + 1 := ⟨r - 1, by omega⟩
          have hnm := hL.cells hW6 hC r (by omega)
          have HKR : Hid (0 + (r + 1) = n) := hkr
          have hkr1 : r < n := by omega
          have HY : Hid (rowOf (fun j => .int .u8 (f j)) nb ++ [.int .u8 47, .int .u8 62, .int .u8 10] ++ closes dep ss r = xs) := show _ = _ by rw [HT.out, show n - 1 = r by omega]
          clear hkr
          have HB2 : Hid (w'.heap.size ≤ wr.heap.size) := show _ ≤ _ from Nat.le_trans HBB.out hL.gr.size
          go_wp2_with fail
          refine (zzend_tag w'.heap.size co m cc dep B1 (r + 1) n (ss r) _ wr hL.own HB2.out (by omega) (by omega) (by omega) (by omega) hnm).mono ?_
          rintro e w7 ⟨v7, rfl, hown7, hg7, hmv7⟩
          obtain ⟨g7, c7, rfl, _, _⟩ := hown7.form (by omega)
          have HL : Hid _ := hL.step hown7 hg7 hmv7
          clear hL hown7 hg7 hmv7 hnm HB2
          go_wp2
          go_roundw
          case rel => exact ⟨1, r, _, _, _, _, false, by have := HKR.out; omega, by go_num, rfl, rfl, rfl, rfl, HL.out, .inr ⟨by omega, rfl, HY.out⟩, by omega⟩
          case measure => simp [intOf] <;> omega
        subst htg
        by_cases hlt : k < n
        · obtain ⟨r, rfl⟩ : ∃ q, r = q + 1 := ⟨r - 1, by omega⟩
          have hnm := hL.cells hW6 hC r (by omega)
          have hsm := hsz' r (by omega)
          have HY : Hid _ := want_step hys
          have HKR : Hid (k + (r + 1) = n) := hkr
          have hkr1 : r < n := by omega
          clear hys hkr
          have HB2 : Hid (w'.heap.size ≤ wr.heap.size) := show _ ≤ _ from Nat.le_trans HBB.out hL.gr.size
          go_wp2_with fail
          refine (zzend_plain w'.heap.size co m cc dep B1 (r + 1) n (ss r) ys wr hL.own HB2.out (by omega) (by omega) (by omega) (by omega) (by omega) (by omega) hnm hsm).mono ?_
          rintro e w7 ⟨v7, rfl, hown7, hg7, hmv7⟩
          obtain ⟨g7, c7, rfl, _, _⟩ := hown7.form (by rw [plainBytes_length]; omega)
          have HL : Hid _ := hL.step hown7 hg7 hmv7
          have hpl : (plainBytes dep r (ss r)).length ≤ 2097152 := by rw [plainBytes_length]; omega
          clear hL hown7 hg7 hmv7 hnm HB2
          go_wp2
          go_roundw
          case rel => exact ⟨k + 1, r, _, _, _, _, false, by have := HKR.out; omega, by go_num, rfl, rfl, rfl, rfl, HL.out, .inr ⟨by omega, rfl, HY.out⟩, by omega⟩
          case measure => simp [intOf] <;> omega
        · obtain rfl : r = 0 := by omega
          rw [closes_zero, List.append_nil] at hys
          subst hys
          have hmM : m = M := by have h1 := hL.own.1; have h2 := hW6.own.1; omega
          subst hmM
          have hlong : 0 < m := by
            have h1 := hL.own.1
            have h2 : 3 ≤ ys.length := by rw [HT.out, List.length_append, List.length_append, List.length_cons, List.length_cons, List.length_cons]; omega
            omega
          have hZ := Zz.mk' hW6 hC hL.own hL.gr
          clear hW6 hC hL hsz'
          have hZ0 := hZ.equal hlong (by omega) HALL.out 0
          clear hZ
          go_wp2_with fail
          refine Calls.mono (show Calls Try.prog 23 _ wr _ from hZ0) ?_
          rintro e w8 ⟨rfl, hbe⟩
          clear hZ0
          go_wp2
          go_ret
          exact ⟨rfl, hbe⟩
    · obtain ⟨q, rfl⟩ : ∃ q, p = q + 1 := ⟨p - 1, by omega⟩
      obtain rfl : z = (q : Int) := by omega
      have HT2 : Hid _ := want_step hT
      have hbl := hW6.baseLe
      clear hT
      go_wp2_with fail
      refine (appendSpaces_any B3 u11 M _ (2 * (dep + (q : Int))) wr (by omega) (by omega) hbl hW6.own).mono ?_
      rintro e w6 ⟨v6, rfl, hown6, hg6, hmv6⟩
      have hW7 := hW6.grow hown6 hg6
      clear hown6 hg6 hmv6 hW6 hbl
      obtain ⟨sp, hsp⟩ : ∃ sp, sp = (2 * (dep + (q : Int))).toNat := ⟨_, rfl⟩
      rw [← hsp] at hW7
      have hsp1 : sp ≤ 300000 := by omega
      have HSP : Hid (sp = (2 * (dep + (q : Int))).toNat) := hsp
      clear hsp
      have hbl := hW7.baseLe
      go_wp2_with (at_builtin; refine wpList_append_srcP _ rfl (.tmp 79) (.tmp 80) 29 29 rfl B3 5 i0 (.int .u8 0) 1 1 Try.underlying29 hi hz0 hz1 hz2 rfl v6 _ _ rfl (hW7.own.alloc _) _ 2 [.int .u8 60, .int .u8 47] rfl (Src.ofSlice _ Try.underlying29 ⟨w6.heap.size, 0, none⟩ 2 2 _ rfl (World.news_of_block (heap_alloc_new w6 _)) one2) (by omega) (by unfold maxLen; omega) (by omega) (by simp; omega) ?_)
      intro g7 c7 w7 hown7 hg7 hat7
      have hW8 := hW7.growA hown7 hg7
      clear hown7 hg7 hat7 hW7 hbl
      have hbl := hW8.baseLe
      have hkm := (hW8.cl hC).2.2 q (by omega)
      have hsm := hsz' q (by omega)
      have n0 : (0 : Int) ≤ (q : Int) := by omega
      have n1 : (q : Int) < (n : Int) := by omega
      go_wp2_with (at_builtin; refine wpList_append_srcP _ rfl (.tmp 82) (.tmp 86) 29 9 rfl B3 5 i0 (.int .u8 0) 1 1 Try.underlying29 hi hz0 hz1 hz2 rfl _ _ _ rfl hW8.own _ (ss q).size _ rfl (Src.ofString _ Try.underlying9 _) (by omega) (by unfold maxLen; omega) (by omega) hbl ?_)
      intro g8 c8 w8 hown8 hg8 hat8
      have hW9 := hW8.grow hown8 hg8
      clear hown8 hg8 hat8 hW8 hbl hkm n0 n1
      have hbl := hW9.baseLe
      go_wp2_with (at_builtin; refine wpList_append_srcP _ rfl (.tmp 88) (.tmp 89) 29 29 rfl B3 5 i0 (.int .u8 0) 1 1 Try.underlying29 hi hz0 hz1 hz2 rfl _ _ _ rfl (hW9.own.alloc _) _ 2 [.int .u8 62, .int .u8 10] rfl (Src.ofSlice _ Try.underlying29 ⟨w8.heap.size, 0, none⟩ 2 2 _ rfl (World.news_of_block (heap_alloc_new w8 _)) one2) (by omega) (by unfold maxLen; omega) (by omega) (by simp; omega) ?_)
      intro g9 c9 w9 hown9 hg9 hat9
      have hW10 := hW9.growA hown9 hg9
      clear hown9 hg9 hat9 hW9 hbl
      have e2 : xs ++ plainBytes dep q (ss q) = xs ++ (List.replicate sp (.int .u8 32) ++ ([.int .u8 60, .int .u8 47] ++ (byteCells (ss q) ++ [.int .u8 62, .int .u8 10]))) := by rw [plainBytes, ← HSP.out]
      have HW : Hid (Wt w3 B3 w9 (.slice (some ⟨g9, 0, none⟩) (M + sp + 2 + (ss q).size + 2) c9) (M + sp + 2 + (ss q).size + 2) (xs ++ plainBytes dep q (ss q))) := by rw [e2]; exact hW10
      clear hW10 e2 HSP
      go_wp2
      go_roundw
      case rel => exact ⟨q, _, _, _, rfl, by omega, by omega, by omega, HW.out, HT2.out, by omega⟩
      case measure => simp [intOf] <;> omega

end Go.Proofs.Qxb6600821a
