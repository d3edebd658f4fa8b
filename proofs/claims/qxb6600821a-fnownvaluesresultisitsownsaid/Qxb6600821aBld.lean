/-
  strings.Builder as ownValues uses it: copyCheck (49) and WriteString (41) at a builder that has been used; slices.Clone at Attrs (43).
-/
import Derived.Test.Qxb6600821aBuild
import Derived.Test.Qxb6600821aShelf
namespace Go.Proofs.Qxb6600821a
open Go Go.RowKit
set_option linter.unusedVariables false
set_option linter.unusedSimpArgs false

theorem copyCheck_used (b : Nat) (w : World) (h0 : w.cell? ⟨b, 0, none⟩ = some (.pointer (some ⟨b, 0, none⟩))) :
    Calls Try.prog 49 #[.pointer (some ⟨b, 0, none⟩)] w fun e w' => e = .returned (.tuple #[]) ∧ w' = w := by
  obtain ⟨j, hj, _⟩ := Option.map_eq_some_iff.1 (show (Try.prog.info? 62).map (fun i => i.size) = some 2 by kernel_rfl)
  go_enter Try.func49, Try.ntmps49
  go_wp2
  rw [Lib.run_neq_ptr_same w _ Try.underlying60 hj]
  go_wp2
  go_end0
  exact ⟨rfl, rfl⟩

set_option maxHeartbeats 1000000 in
theorem writeString_used (B b : Nat) (bs : List Value) (s : ByteArray) (w : World) (h : Lib.BuilderAt 62 5 B b (.pointer (some ⟨b, 0, none⟩)) bs w) (hlen : bs.length + s.size ≤ 140737488355328) (hBw : B ≤ w.heap.size) :
    Calls Try.prog 41 #[.pointer (some ⟨b, 0, none⟩), .string s] w fun e w' => e = .returned (.tuple #[.int .i64 s.size, .nilIface]) ∧ Lib.BuilderAt 62 5 B b (.pointer (some ⟨b, 0, none⟩)) (bs ++ byteCells s) w' ∧ Below B w w' := by
  obtain ⟨i0, hi, hz0, hz1, hz2⟩ := info_parts Try.info5
  obtain ⟨hB, v, hb, hown, hne⟩ := h
  have k0 : w.cell? ⟨b, 0, none⟩ = some (.pointer (some ⟨b, 0, none⟩)) := by simp [World.cell?, hb]
  have k1 : w.cell? ⟨b, 1, none⟩ = some v := by simp [World.cell?, hb]
  have hlt : b < w.heap.size := lt_of_block hb
  go_enter Try.func41, Try.ntmps41
  go_wp2_with fail
  refine (copyCheck_used b w k0).mono ?_
  rintro e w1 ⟨rfl, rfl⟩
  go_wp2_with (at_builtin; refine wpList_append_src _ rfl (.tmp 12) (.tmp 13) 29 9 rfl B 5 i0 (.int .u8 0) 1 1 Try.underlying29 hi hz0 hz1 hz2 rfl v bs.length bs rfl hown _ s.size _ rfl (Src.ofString _ Try.underlying9 _) (by unfold maxLen; omega) (by omega) hBw ?_)
  intro v' w2 hown2 hg2 hat2
  have hb2 : w2.heap[b]? = some (.cells #[.pointer (some ⟨b, 0, none⟩), v] 62 (0, 0)) := by
    rw [hg2.block b hlt (fun e => hne e.symm)]; exact hb
  have l1 : w2.cell? ⟨b, 1, none⟩ = some v := by simp [World.cell?, hb2]
  have f1 : w2.frozen? ⟨b, 1, none⟩ = false := by simp [World.frozen?, hb2]
  have hBe : Below B w1 w2 := below_of_grownBy hg2 hBw (fun k hk => (hown.lt k hk).1)
  obtain ⟨ao, n', cap, rfl⟩ : ∃ ao n' cap, v' = .slice ao n' cap := by
    rcases hown2.2 with ⟨hv, _⟩ | ⟨g, cap, cur, hv, _⟩
    · exact ⟨_, _, _, hv⟩
    · exact ⟨_, _, _, hv⟩
  have HP : Hid (Lib.BuilderAt 62 5 B b (.pointer (some ⟨b, 0, none⟩)) (bs ++ byteCells s) (w2.setCell ⟨b, 1, none⟩ (.slice ao n' cap))) :=
    Lib.BuilderAt.put hB hb2 (by rw [List.length_append, byteCells_length]; exact hown2) (by decide)
  have HBe : Hid (Below B w1 (w2.setCell ⟨b, 1, none⟩ (.slice ao n' cap))) := hBe.setCell (p := ⟨b, 1, none⟩) hB _
  clear hown2 hg2 hat2 hb2 hBe hown hb hne
  go_wp2
  go_ret2
  exact ⟨rfl, HP.out, HBe.out⟩

/-- append onto a slice of the call's own that is not nil: the new one is not nil. -/
theorem wpList_append_srcS {P : Program} (w : World) {ops : Array Oper} {rest : List Oper} {o : Oper} {a : Act} {Q : Exit → Act → World → Prop} (hgd : o.guard = none) (s x : Operand) (t tx : TypeId)
    (ho : o.op = .call { callee := .builtin .append, args := #[s, x], argTypes := #[t, tx] })
    (base : Nat) (e : TypeId) (i : TypeInfo) (z : Value) (size bytes : Nat) (ht : P.underlying t = some (.slice e)) (hi : P.info? e = some i) (hz : i.zero = some z)
    (hsize : i.size = size) (hby : i.bytes = bytes) (hzs : z.cells.size = size)
    (g0 n c : Nat) (xs : List Value) (hs : a.eval s = .slice (some ⟨g0, 0, none⟩) n c) (hown : w.ownsRow base e size (.slice (some ⟨g0, 0, none⟩) n c) n xs)
    (xv : Value) (m : Nat) (news : List Value) (hx : a.eval x = xv) (hsrc : Src P size tx xv m news w)
    (h63 : n + m ≤ maxLen) (hbytes : (n + m) * bytes ≤ 140737488355328) (hbase : base ≤ w.heap.size)
    (h : ∀ g cap w', w'.ownsRow base e size (.slice (some ⟨g, 0, none⟩) (n + m) cap) (n + m) (xs ++ news) → w.grownBy w' (some g0) → (g = g0 ∨ g = w.heap.size) → wpList P ops Q rest (a.put o.dst (.slice (some ⟨g, 0, none⟩) (n + m) cap)) w') : wpList P ops Q (o :: rest) a w := by
  obtain ⟨v', w', hr, h2, h3, h4, h5⟩ := run_append_src (P := P) w base t tx o.type e i z size bytes ht hi hz hsize hby hzs _ n xs hown xv m news hsrc h63 hbytes hbase
  obtain ⟨g, cap, rfl⟩ : ∃ g cap, v' = .slice (some ⟨g, 0, none⟩) (n + m) cap := by
    rcases h2.2 with ⟨hv, _⟩ | ⟨g, cap, cur, hv, _⟩
    · exact absurd (h5.1 hv).1 (by simp)
    · exact ⟨g, cap, hv⟩
  refine wpList_plain hgd fun K hK => ?_
  unfold Oper.wp execOp
  simp only [ho, resolve, invoke, builtin, Sem.run_bind, Sem.run_pure, Result.andThen_ok, List.map_toArray, List.map_cons, List.map_nil, hs, hx, hr]
  exact hK _ _ (h g cap w' h2 h3 (by simpa [Value.ownBlock] using h4))

theorem cloneAttrs_nil (w : World) : Calls Try.prog 43 #[.slice none 0 0] w fun e w' => e = .returned (.slice none 0 0) ∧ w' = w := by
  have hq : ∀ (w : World) (a : Option Addr) (n c : Nat), (binOp .eql 41 (.slice a n c) (.slice none 0 0)).run Try.prog w = .ok (.bool a.isNone) w := fun w a n c => Lib.run_eql_slice_nil w _ _ a n c 0 0 Try.underlying41
  go_enter Try.func43, Try.ntmps43
  go_wp2
  go_ret
  exact ⟨rfl, rfl⟩

set_option maxHeartbeats 1000000 in
theorem cloneAttrs_some (g n cap : Nat) (xs : List Value) (w : World) (hn : n ≤ 65536) (hl : xs.length = n * 2) (hc : ∀ j u, xs[j]? = some u → w.cell? ⟨g, j, none⟩ = some u) (h1 : ∀ u ∈ xs, u.oneCell' = true) :
    Calls Try.prog 43 #[.slice (some ⟨g, 0, none⟩) n cap] w fun e w' => ∃ g' c', e = .returned (.slice (some ⟨g', 0, none⟩) n c') ∧ w'.ownsRow w.heap.size 45 2 (.slice (some ⟨g', 0, none⟩) n c') n xs ∧ w.grownBy w' none := by
  obtain ⟨i0, hi, hz0, hz1, hz2⟩ := info_parts Try.info45
  have hq : ∀ (w : World) (a : Option Addr) (n c : Nat), (binOp .eql 41 (.slice a n c) (.slice none 0 0)).run Try.prog w = .ok (.bool a.isNone) w := fun w a n c => Lib.run_eql_slice_nil w _ _ a n c 0 0 Try.underlying41
  have hc' : ∀ o : Obj, ∀ j u, xs[j]? = some u → (w.alloc o).cell? ((⟨g, 0, none⟩ : Addr).add j) = some u := fun o j u hu => by
    have hadd : (⟨g, 0, none⟩ : Addr).add j = ⟨g, j, none⟩ := by unfold Addr.add; split <;> simp_all
    have := hc j u hu
    rw [hadd, World.cell?_alloc_past _ _ _ (World.block_lt_of_cell? w _ this)]
    exact this
  have HC : Hid _ := hc'
  clear hc hc'
  go_enter Try.func43, Try.ntmps43
  go_wp2_with (at_builtin; refine wpList_append_srcS _ rfl (.tmp 5) (.tmp 6) 41 41 rfl w.heap.size 45 i0 (.agg #[.string ByteArray.empty, .string ByteArray.empty]) 2 32 Try.underlying41 hi hz0 hz1 hz2 rfl w.heap.size 0 0 [] rfl (World.ownsRow_made w #[] 0 (Nat.le_refl _) (by unfold maxLen; omega) rfl) _ n xs rfl (Src.ofSlice _ Try.underlying41 _ n cap xs hl (HC.out _) h1) (by unfold maxLen; omega) (by omega) (by simp) ?_)
  intro g' c' w' hown hg hat
  have H1 : Hid (w'.ownsRow w.heap.size 45 2 (.slice (some ⟨g', 0, none⟩) n c') n xs) := show World.ownsRow _ _ _ _ _ _ _ by simpa using hown
  have H2 : Hid (w.grownBy w' none) := grownBy_trans (World.grownBy_alloc w _ none) hg (.inr fun k hk => by cases hk; exact Nat.le_refl _)
  clear hown hg hat
  go_wp2
  go_ret
  exact ⟨g', c', by simp, H1.out, H2.out⟩

end Go.Proofs.Qxb6600821a
