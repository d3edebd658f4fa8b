/-
  End (33), ZZEnd (22).
-/
import Derived.Test.Qxb6600821aWriter
namespace Go.Proofs.Qxb6600821a
open Go Go.RowKit
set_option linter.unusedVariables false
set_option linter.unusedSimpArgs false
attribute [local go_sem ↓] Go.wp_at_zero Go.wp_at_succ

/-- What End appends where no tag is open. -/
def plainBytes (dep : Int) (p : Nat) (nm : ByteArray) : List Value := List.replicate (2 * (dep + (p : Int))).toNat (.int .u8 32) ++ ([.int .u8 60, .int .u8 47] ++ (byteCells nm ++ [.int .u8 62, .int .u8 10]))
theorem plainBytes_length (dep : Int) (p : Nat) (nm : ByteArray) : (plainBytes dep p nm).length = (2 * (dep + (p : Int))).toNat + 2 + nm.size + 2 := by
  simp only [plainBytes, List.length_append, List.length_replicate, List.length_cons, List.length_nil, byteCells_length]
  omega
theorem plainBytes_eq (dep : Int) (p : Nat) (nm : ByteArray) (xs : List Value) : xs ++ plainBytes dep p nm = xs ++ List.replicate (2 * (dep + (p : Int))).toNat (.int .u8 32) ++ (byteCells { data := #[60, 47] } ++ (byteCells nm ++ byteCells { data := #[62, 10] })) := by
  rw [List.append_assoc]
  rfl

set_option maxHeartbeats 1000000 in
theorem end_tag (base H Bw : Nat) (row : Option Nat) (w0 w : World) (vb : Value) (dep : Int) (g n oc : Nat) (nm : ByteArray) (m : Nat) (xs : List Value)
    (h : WI base H Bw row w0 w vb dep (.slice (some ⟨g, 0, none⟩) n oc) true m xs) (hm : m ≤ 1099511627776) (hn0 : 0 < n) (hn : n ≤ 65536) (hno : n ≤ oc)
    (hnm : w.cell? ⟨g, n - 1, none⟩ = some (.string nm)) :
    Calls Try.prog 33 #[.pointer (some ⟨Bw, 0, none⟩)] w fun e w' => e = .returned (.tuple #[]) ∧ ∃ v', WI base H Bw row w0 w' v' dep (.slice (some ⟨g, 0, none⟩) (n - 1) oc) false (m + 3) (xs ++ [.int .u8 47, .int .u8 62, .int .u8 10]) := by
  obtain ⟨i0, hi, hz0, hz1, hz2⟩ := info_parts Try.info5
  have k2 := h.c2
  have f2 := h.fz 2
  have n0 : (0 : Int) ≤ (n : Int) - 1 := by omega
  have n1 : (n : Int) - 1 < (n : Int) := by omega
  have n2 : (n : Int) - 1 ≤ (oc : Int) := by omega
  go_enter Try.func33, Try.ntmps33
  go_wp2
  go_quiet (fail)
  go_wp2
  go_region
  have hJ := (h.drewN (nq + 1)).setOpen (.slice (some ⟨g, 0, none⟩) (n - 1) oc)
  clear h k2 f2 hnm n0 n1 n2
  generalize ((w.drewN (nq + 1)).setCell ⟨Bw, 2, none⟩ (.slice (some ⟨g, 0, none⟩) (n - 1) oc)) = W at hJ ⊢
  have j0 := hJ.c0
  have j3 := hJ.c3
  have hbl := hJ.baseLe
  go_wp2_with (at_builtin; refine wpList_append_srcP _ rfl (.tmp 37) _ 29 9 rfl base 5 i0 (.int .u8 0) 1 1 Try.underlying29 hi hz0 hz1 hz2 rfl vb m _ rfl hJ.own _ 3 _ rfl (Src.ofString _ Try.underlying9 _) (by omega) (by unfold maxLen; omega) (by omega) hbl ?_; intro g1 cap1 w1 hown1 hgrow1 hat1; obtain ⟨hB1, hK⟩ := WI.append hJ hown1 hgrow1 hat1; obtain ⟨ka, _, _, kd, kb⟩ := blk_facts hB1; clear hown1 hgrow1 hat1 hB1)
  exact bodyPost_ret (results_none (by kernel_rfl) _ _ _) rfl ⟨rfl, _, hK.setTag false⟩

set_option maxHeartbeats 1000000 in
theorem end_plain (base H Bw : Nat) (row : Option Nat) (w0 w : World) (vb : Value) (dep : Int) (g n oc : Nat) (nm : ByteArray) (m : Nat) (xs : List Value)
    (h : WI base H Bw row w0 w vb dep (.slice (some ⟨g, 0, none⟩) n oc) false m xs) (hm : m ≤ 1099511627000) (hn0 : 0 < n) (hn : n ≤ 65536) (hno : n ≤ oc) (hd0 : -65536 ≤ dep) (hd1 : dep ≤ 65536)
    (hnm : w.cell? ⟨g, n - 1, none⟩ = some (.string nm)) (hsz : nm.size ≤ 1048576) :
    Calls Try.prog 33 #[.pointer (some ⟨Bw, 0, none⟩)] w fun e w' => e = .returned (.tuple #[]) ∧ ∃ v', WI base H Bw row w0 w' v' dep (.slice (some ⟨g, 0, none⟩) (n - 1) oc) false (m + (plainBytes dep (n - 1) nm).length) (xs ++ plainBytes dep (n - 1) nm) := by
  obtain ⟨i0, hi, hz0, hz1, hz2⟩ := info_parts Try.info5
  have k2 := h.c2
  have f2 := h.fz 2
  have n0 : (0 : Int) ≤ (n : Int) - 1 := by omega
  have n1 : (n : Int) - 1 < (n : Int) := by omega
  have n2 : (n : Int) - 1 ≤ (oc : Int) := by omega
  go_enter Try.func33, Try.ntmps33
  go_wp2
  go_quiet (fail)
  go_wp2
  go_region
  have hJ := (h.drewN (nq + 1)).setOpen (.slice (some ⟨g, 0, none⟩) (n - 1) oc)
  clear h k2 f2 hnm n0 n1 n2
  generalize ((w.drewN (nq + 1)).setCell ⟨Bw, 2, none⟩ (.slice (some ⟨g, 0, none⟩) (n - 1) oc)) = W at hJ ⊢
  have j3 := hJ.c3
  go_wp2_with fail
  refine (indent_any base H Bw row w0 W vb dep _ (n - 1) oc false m xs hJ (by omega) (by omega) hd0 hd1).mono ?_
  rintro e w2 ⟨rfl, v2, hI⟩
  clear j3 hJ
  obtain ⟨m2, hm2⟩ : ∃ m2, m2 = m + (2 * (dep + (n - 1 : Nat))).toNat := ⟨_, rfl⟩
  obtain ⟨xs2, hxs2⟩ : ∃ xs2, xs2 = xs ++ List.replicate (2 * (dep + (n - 1 : Nat))).toNat (.int .u8 32) := ⟨_, rfl⟩
  rw [← hm2, ← hxs2] at hI
  have hm3 : m2 ≤ 1099512000000 := by omega
  have HM : Hid (m2 = m + (2 * (dep + (n - 1 : Nat))).toNat) := hm2
  have HX : Hid (xs2 = xs ++ List.replicate (2 * (dep + (n - 1 : Nat))).toNat (.int .u8 32)) := hxs2
  clear hm2 hxs2
  have j0 := hI.c0
  have hbl := hI.baseLe
  go_wp2_with (at_builtin; refine wpList_append_srcP _ rfl (.tmp 50) _ 29 9 rfl base 5 i0 (.int .u8 0) 1 1 Try.underlying29 hi hz0 hz1 hz2 rfl v2 m2 _ rfl hI.own _ 2 _ rfl (Src.ofString _ Try.underlying9 _) (by omega) (by unfold maxLen; omega) (by omega) hbl ?_)
  intro g1 cap1 w3 hown1 hgrow1 hat1
  obtain ⟨hB1, hK⟩ := WI.append hI hown1 hgrow1 hat1
  obtain ⟨ka, _, _, _, kb⟩ := blk_facts hB1
  clear hown1 hgrow1 hat1 hB1 hI hbl j0
  have hbl := hK.baseLe
  go_wp2_with (at_builtin; refine wpList_append_srcP _ rfl (.tmp 58) (.tmp 59) 29 9 rfl base 5 i0 (.int .u8 0) 1 1 Try.underlying29 hi hz0 hz1 hz2 rfl _ (m2 + 2) _ rfl hK.own _ nm.size _ rfl (Src.ofString _ Try.underlying9 _) (by omega) (by unfold maxLen; omega) (by omega) hbl ?_)
  intro g2 cap2 w4 hown2 hgrow2 hat2
  obtain ⟨hB2, hL⟩ := WI.append hK hown2 hgrow2 (by simpa using hat2)
  obtain ⟨la, _, _, _, lb⟩ := blk_facts hB2
  clear hown2 hgrow2 hat2 hB2 hK hbl ka kb
  have hbl := hL.baseLe
  go_wp2_with (at_builtin; refine wpList_append_srcP _ rfl (.tmp 67) _ 29 9 rfl base 5 i0 (.int .u8 0) 1 1 Try.underlying29 hi hz0 hz1 hz2 rfl _ (m2 + 2 + nm.size) _ rfl hL.own _ 2 _ rfl (Src.ofString _ Try.underlying9 _) (by omega) (by unfold maxLen; omega) (by omega) hbl ?_)
  intro g3 cap3 w5 hown3 hgrow3 hat3
  obtain ⟨hB3, hM⟩ := WI.append hL hown3 hgrow3 (by simpa using hat3)
  obtain ⟨ma, _, _, _, mb⟩ := blk_facts hB3
  clear hown3 hgrow3 hat3 hB3 hL hbl la lb
  go_wp2
  go_end0
  refine ⟨rfl, .slice (some ⟨g3, 0, none⟩) (m2 + 2 + nm.size + 2) cap3, ?_⟩
  have e1 : m + (plainBytes dep (n - 1) nm).length = m2 + 2 + nm.size + 2 := by rw [HM.out, plainBytes_length]; omega
  rw [e1, plainBytes_eq, ← HX.out]
  exact hM

end Go.Proofs.Qxb6600821a
