/-
  How an array of 54 pointers to rows is opened.
-/
import Derived.Test.Qxb6601538aCells
import Derived.ProofKit
import Derived.OpenShut
import Derived.ChangeOld
namespace Go.Proofs.Qxb6601538a
open Go.ChangeShapes Go.WideShapes Go.ChangeAt Go.RowKit
set_option linter.unusedVariables false

theorem own35 : ownKnob Try.prog.godebug = none := by kernel_rfl
theorem laidOut35 : laidOutB Try.prog = true := by kernel_rfl
theorem cells35 : Try.prog.cellsOf 35 = 54 := by kernel_rfl
theorem cells34 : Try.prog.cellsOf 34 = 1 := by kernel_rfl
theorem cells48 : Try.prog.cellsOf 48 = 1024 := by kernel_rfl
theorem cells22 : Try.prog.cellsOf 22 = 1 := by kernel_rfl

theorem okWide_35 {w : World} {r : Reach} {base : Nat} {v : Value} (h : Value.okWide Try.prog w r base 35 v) : ∃ C, v = .agg C ∧ C.size = 54 := by
  simp only [Value.okWide, Try.underlying35] at h
  obtain ⟨cs, h1, h2, _⟩ := h
  exact ⟨cs, h1, by rw [h2, cells35]⟩

/-- The number in a cell. -/
def numIn (w : World) (b o : Nat) : Int := match w.cell? ⟨b, o, none⟩ with | some (.int _ n) => n | _ => 0
/-- The content of an array of rows, read off memory. -/
def contOf (w : World) (C : Array Value) : Cont := fun r => match C[r]? with | some (.pointer (some a)) => some (fun c => numIn w a.block (a.off + c)) | _ => none

theorem one_of_list {l : List Value} {v : Value} {i : Nat} (h : (l.drop i).take 1 = [v]) : l[i]? = some v := by
  have h1 : ((l.drop i).take 1)[0]? = some v := by rw [h]; rfl
  rw [List.getElem?_take_of_lt (by omega), List.getElem?_drop] at h1
  simpa using h1

theorem openR {H : Type} {enc : TypeId × Value → H} {W : World} {C : Array Value} {d : DataW H} {p : List MemPlace} (h : DataW.Trod enc Try.prog W 0 (fun _ => true) true 35 (.agg C) d p) (hC : C.size = 54) : SeenR W C (contOf W C) ∧ (contOf W C).fits := by
  obtain ⟨fuel, hf⟩ := h
  obtain ⟨xs, m, rfl, hx, hlen, hxs, hel⟩ := DataW.trod_array Try.underlying35 hf
  have key : ∀ r, r < 54 → (C[r]? = some (.pointer none)) ∨ ∃ b o, C[r]? = some (.pointer (some ⟨b, o, none⟩)) ∧ ∀ c, c < 1024 → ∃ n, W.cell? ⟨b, o + c, none⟩ = some (.int .u64 n) ∧ (Lit.int .u64 n).wf = true := fun r hr => by
    have h1 := hel r hr
    rw [cells34, Nat.mul_one, List.getElem?_eq_getElem (by omega)] at h1
    rcases DataW.trod_pointer Try.underlying34 h1 with ⟨h2, _⟩ | ⟨a, cs', y, n, _, h2, _, h4, h5⟩
    · exact .inl (by simpa [Value.cells] using one_of_list h2)
    · have h3 := one_of_list h2
      obtain ⟨xs', m', _, _, hl', hxs', hel'⟩ := DataW.trod_array Try.underlying48 h5
      rw [cells48] at h4 hl'
      obtain ⟨_, hlc, hcell⟩ := World.cells?_some h4
      have each : ∀ c, c < 1024 → ∃ n, W.cell? (a.add c) = some (.int .u64 n) ∧ (Lit.int .u64 n).wf = true := fun c hc => by
        have h6 := hel' c hc
        rw [cells22, Nat.mul_one, List.getElem?_eq_getElem (by omega)] at h6
        obtain ⟨n, h7, _, h8⟩ := DataW.trod_int Try.underlying22 h6
        exact ⟨n, (hcell c hc).trans (one_of_list h7), h8⟩
      obtain ⟨b, o, spot⟩ := a
      obtain ⟨n0, hn0, _⟩ := each 0 (by omega)
      have hspot : spot = none := by simpa [Addr.add] using World.cell?_spot hn0
      subst hspot
      exact .inr ⟨b, o, by simpa [Value.cells] using h3, fun c hc => by
        obtain ⟨n, h9, h10⟩ := each c hc
        rw [add_plain] at h9
        exact ⟨n, h9, h10⟩⟩
  refine ⟨⟨hC, fun r hr => ?_⟩, fun r hr f hG c hc => ?_⟩
  · rcases key r hr with h1 | ⟨b, o, h1, h2⟩
    · exact .inl ⟨h1, by unfold contOf; rw [h1]⟩
    · refine .inr ⟨b, o, fun c => numIn W b (o + c), h1, by unfold contOf; rw [h1], fun c hc => ?_⟩
      obtain ⟨n, h3, _⟩ := h2 c hc
      have : numIn W b (o + c) = n := by unfold numIn; rw [h3]
      show W.cell? ⟨b, o + c, none⟩ = some (.int .u64 (numIn W b (o + c)))
      rw [h3, this]
  · rcases key r hr with h1 | ⟨b, o, h1, h2⟩
    · unfold contOf at hG; rw [h1] at hG; cases hG
    · obtain rfl : (fun c => numIn W b (o + c)) = f := by unfold contOf at hG; rw [h1] at hG; exact Option.some.inj hG
      obtain ⟨n, h3, h4⟩ := h2 c hc
      have : numIn W b (o + c) = n := by unfold numIn; rw [h3]
      show 0 ≤ numIn W b (o + c) ∧ numIn W b (o + c) < 18446744073709551616
      rw [this]
      simp [Lit.wf, IntKind.min, IntKind.max, IntKind.signed, IntKind.bits] at h4
      omega

end Go.Proofs.Qxb6601538a
