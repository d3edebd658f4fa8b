/-
  Rows.FnOwnValuesResultIsItsOwnSaid, PROVED.
-/
import Derived.Test.Qxb6600821aFn8
import Derived.Test.Qxb6600821aOpen
namespace Go.Proofs.Qxb6600821a.fnOwnValuesResultIsItsOwn
open Go.ChangeShapes Go.WideShapes Go.ChangeAt Go.RowKit
set_option linter.unusedVariables false

theorem walk (a0 : Option Addr) (len0 cap0 : Nat) (s0 : Nat → ByteArray) (a1 : Option Addr) (len1 cap1 : Nat) (s1 : Nat → ByteArray) (w : World) (w0 : InS w a0 len0 cap0 s0) (w1 : InS w a1 len1 cap1 s1) :
    Calls Try.prog 8 #[.slice a0 len0 cap0, .slice a1 len1 cap1] w fun e w' => e = .returned (.bool true) ∧ Below w.heap.size w w' := by
  cases a1 with
  | none =>
    obtain ⟨rfl, rfl⟩ := w1.nil rfl
    exact fn8_nil a0 len0 cap0 s0 w w0.le w0.nil w0.seen w0.small
  | some va => exact fn8_some a0 len0 cap0 s0 va len1 cap1 s1 w w0.le w1.le w0.nil w0.seen w1.seen w0.small w1.small

set_option maxRecDepth 100000 in
theorem lifted (os : Os) (started : os.Started) (H : Type) (enc : TypeId × Value → H) :
    ReturnsInHanded {} Try.checked os 8 .any (Rows.fnOwnValuesResultIsItsOwnSpec.pre6 enc Try.prog Try.f8 Rows.fnOwnValuesResultIsItsOwnRow.domain false) (Rows.fnOwnValuesResultIsItsOwnSpec.post enc Try.prog Try.f8 false true false false) := by
  refine returnsInHanded_of_change (C := Try.checked) own started (by kernel_rfl) Try.func8
    (ChangeSpec.witness6 (enc := enc) (C := Try.checked) false ⟨#[], #[.slice none 0 0, .slice none 0 0], []⟩ 8 (by kernel_rfl) (by kernel_rfl) (by kernel_rfl) (by kernel_rfl)) ?_
  intro W base args ds gs before hval0 hW hcnd _
  have hval : ∀ (j : Nat) t v, Try.f8.params[j]? = some t → args[j]? = some v → Value.okWide Try.prog W .any base t v := hval0
  have hW' := hW
  obtain ⟨p, q, hA0, hV, rfl, hfz, hnd⟩ := hW
  have hA : DataW.TrodAll enc Try.prog W 0 (fun _ => true) true Try.f8.params.toList args.toList ds p := hA0
  rw [Try.params8] at hA hval
  obtain ⟨v0, vs0, d0, ds0, p0, q0, hargs, rfl, rfl, h0, r0⟩ := trodAll_cons hA
  obtain ⟨v1, vs1, d1, ds1, p1, q1, rfl, rfl, rfl, h1, r1⟩ := trodAll_cons r0
  obtain ⟨rfl, rfl, rfl⟩ := trodAll_nil r1
  obtain rfl : args = #[v0, v1] := by cases args; simp_all
  obtain ⟨rfl, rfl⟩ := trodVars_none hV
  obtain ⟨a0, len0, cap0, rfl⟩ := okWide_slice Try.underlying30 (hval 0 30 v0 rfl rfl)
  have k0 := h0
  have lt0 : ∀ x ∈ p0, x.block < W.heap.size := by obtain ⟨m, hm⟩ := k0; exact DataW.trod_lt m _ _ _ hm
  obtain ⟨z0, w0⟩ := openS h0
  obtain ⟨a1, len1, cap1, rfl⟩ := okWide_slice Try.underlying30 (hval 1 30 v1 rfl rfl)
  have k1 := h1
  have lt1 : ∀ x ∈ p1, x.block < W.heap.size := by obtain ⟨m, hm⟩ := k1; exact DataW.trod_lt m _ _ _ hm
  obtain ⟨z1, w1⟩ := openS h1
  clear hA0 hval0
  refine (walk a0 len0 cap0 z0 a1 len1 cap1 z1 W w0 w1).mono fun e W' ⟨he, bel⟩ => ?_
  subst he
  exact ⟨_, rfl, _, _, _, [], _, [], hW', trodAll_mk1 (shut_bool Try.underlying4 _), (trodAll_cons_mk (Below.trod laidOut (by kernel_rfl) (of_decide_eq_true (by kernel_rfl)) k0 bel lt0) (trodAll_cons_mk (Below.trod laidOut (by kernel_rfl) (of_decide_eq_true (by kernel_rfl)) k1 bel lt1) trodAll_mk0)), rfl, bel.frame _, fun h => by cases h⟩

theorem over : Rows.fnOwnValuesResultIsItsOwnRow.holds Try.pinned (OpenSpec.ofChange Rows.fnOwnValuesResultIsItsOwnSpec) :=
  OpenClaim.holds_of_wide 8 Try.f8 rfl rfl rfl rfl rfl rfl rfl ⟨rfl, rfl, rfl, rfl, rfl⟩ rfl rfl rfl rfl rfl (by kernel_rfl) Try.func8 (by kernel_rfl)
    (of_decide_eq_true (by kernel_rfl)) (by unfold Func.isWrapper; first | (rw [if_pos (by decide +kernel)]; kernel_rfl) | (rw [if_neg (by decide +kernel)]; exact ⟨rfl, rfl⟩))
    (fun os started H enc _ => lifted os started H enc)

/-- THE STATEMENT -/
theorem proved : Rows.FnOwnValuesResultIsItsOwnSaid := over
end Go.Proofs.Qxb6600821a.fnOwnValuesResultIsItsOwn

namespace Go.Proofs.Qxb6600821a
/-- THE STATEMENT, under the seat's own namespace. -/
theorem fnOwnValuesResultIsItsOwn_proved : Rows.FnOwnValuesResultIsItsOwnSaid := fnOwnValuesResultIsItsOwn.proved
end Go.Proofs.Qxb6600821a
