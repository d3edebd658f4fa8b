/-
  FnLatenciesAddCommutes (7): the walk.
-/
import Derived.Test.Qxb6601538aReg
namespace Go.Proofs.Qxb6601538a
open Go Go.RowKit
set_option linter.unusedVariables false
set_option linter.unusedSimpArgs false

theorem wpList_load_row_if {P : Program} {w : World} {ops : Array Oper} {rest : List Oper} {op : Oper} {a : Act} {Q : Exit → Act → World → Prop} (hw : Region.wanted op (yielded ops a.tmps) = true) (ty : TypeId) (x : Operand) (ho : op.op = .load ty x)
    (b : Nat) (hx : a.eval x = .pointer (some ⟨b, 0, none⟩)) (C : Array Value) (t : TypeId) (hb : w.heap[b]? = some (.cells C t (0, 0))) (n : Nat) (e : TypeId) (hu : P.underlying ty = some (.array n e))
    (hi : (P.info? ty).map (·.size) = some n) (hC : C.size = n) (h : wpList P ops Q rest (a.put op.dst (.agg C)) w) : wpList P ops Q (op :: rest) a w :=
  wpList_step fun K hK => by
    have hr := run_loadVar_row (P := P) w b t ty C (0, 0) _ hb hu rfl (by rw [hC]; exact hi)
    rw [if_pos hw]
    unfold Oper.wp execOp
    simp only [ho, hx, Instr.loadAt, Instr.sureAddr, Sem.run_bind, Sem.run_pure, Result.andThen_ok, hr]
    exact hK _ _ h
theorem addRow_comm (x y : Option (Nat → Int)) : addRow x y = addRow y x := by
  cases x <;> cases y <;> simp only [addRow]
  congr 1
  funext c
  rw [Int.add_comm]
theorem SeenR.congr {w : World} {C : Array Value} {G G' : Cont} (h : SeenR w C G) (e : ∀ r, r < 54 → G' r = G r) : SeenR w C G' :=
  ⟨h.size, fun r hr => by rw [e r hr]; exact h.row r hr⟩

set_option maxRecDepth 100000 in
set_option maxHeartbeats 8000000 in
theorem fn7_any (w : World) (C1 C2 : Array Value) (lc oc : Int) (G1 G2 : Cont) (hs1 : SeenR w C1 G1) (hs2 : SeenR w C2 G2) (hf1 : G1.fits) (hf2 : G2.fits) :
    Calls Try.prog 7 #[.agg C1, .int .u64 lc, .agg C2, .int .u64 oc] w fun e w' => e = .returned (.bool true) ∧ Below w.heap.size w w' := by
  have hz35 := zero35
  have hC1 := hs1.size
  have hC2 := hs2.size
  go_enter Try.func7, Try.ntmps7
  go_wp2_with (refine wpList_load_row rfl 35 (.tmp 4) rfl w.heap.size rfl C1 35 (rd_old (rd_new rfl)) 54 34 Try.underlying35 size35 hC1 ?_)
  have hb0 : Below w.heap.size w ((w.alloc (.cells C1 35)).alloc (.cells C2 35)) := ((Below.refl _ _).alloc (Nat.le_refl _) _).alloc (by simp) _
  refine (clone_any C1 G1 _ (hs1.below hb0 (Nat.le_refl _))).mono ?_
  rintro e w1 ⟨D1, rfl, hH1, hb1⟩
  have a1 : w1.heap[w.heap.size]? = some (.cells C1 35 (0, 0)) := rd_below hb1 (rd_old (rd_new rfl)) (by simp <;> omega)
  have b1 : (w1.setRow w.heap.size D1).heap[w.heap.size + 1]? = some (.cells C2 35 (0, 0)) := rd_other (by omega) (rd_below hb1 (rd_new (by simp)) (by simp))
  have hD1 := hH1.size
  have hone1 := hH1.oneCell
  have hse2 : SeenR (w1.setRow w.heap.size D1) C2 G2 := hs2.below (Below.setRow' (hb0.trans (hb1.mono (by simp <;> omega))) (Nat.le_refl _) D1) (Nat.le_refl _)
  have HH1 : Hid (Held w1 ((w.alloc (.cells C1 35)).alloc (.cells C2 35)).heap.size w1.heap.size D1 54 G1) := hH1
  have HB1 : Hid (Below ((w.alloc (.cells C1 35)).alloc (.cells C2 35)).heap.size ((w.alloc (.cells C1 35)).alloc (.cells C2 35)) w1) := hb1
  clear hH1 hb1 hb0 hs1 hs2
  go_wp2_with (first
    | ((with_reducible show wpList Try.prog _ _ (⟨_, Op.store 35 (Operand.tmp 4) _, _, _, _, _⟩ :: _) _ _); refine wpList_store_row rfl 35 (.tmp 4) (.tmp 18) rfl w.heap.size C1 D1 rfl rfl 35 a1 54 size35 hC1 hD1 hone1 ?_)
    | ((with_reducible show wpList Try.prog _ _ (⟨_, Op.load 35 (Operand.tmp 6), _, _, _, _⟩ :: _) _ _); refine wpList_load_row rfl 35 (.tmp 6) rfl (w.heap.size + 1) rfl C2 35 b1 54 34 Try.underlying35 size35 hC2 ?_))
  refine (clone_any C2 G2 _ hse2).mono ?_
  rintro e w2 ⟨D2, rfl, hH2, hb2⟩
  have hT := Two.start hC1 hC2 HH1.out HB1.out hH2 hb2
  have b2 : w2.heap[w.heap.size + 1]? = some (.cells C2 35 (0, 0)) := rd_below hb2 b1 (lt_of_block b1)
  have hD2 := hH2.size
  have hone2 := hH2.oneCell
  have k1 := hT.A
  have HT : Hid (Two w (w2.setRow (w.heap.size + 1) D2) w.heap.size (w.heap.size + 1) D1 D2 G1 G2 (w.heap.size + 2) w2.heap.size) := hT
  clear hT HH1 HB1 hH2 hb2 a1 b1 hse2
  go_wp2_with (first
    | ((with_reducible show wpList Try.prog _ _ (⟨_, Op.store 35 (Operand.tmp 6) _, _, _, _, _⟩ :: _) _ _); refine wpList_store_row rfl 35 (.tmp 6) (.tmp 20) rfl (w.heap.size + 1) C2 D2 rfl rfl 35 b2 54 size35 hC2 hD2 hone2 ?_))
  have hT := HT.out
  clear HT k1 b2
  generalize w2.setRow (w.heap.size + 1) D2 = wz at hT ⊢
  generalize w2.heap.size = hi at hT ⊢
  generalize w.heap.size + 2 = lo at hT ⊢
  generalize w.heap.size + 1 = b at hT ⊢
  generalize hA : w.heap.size = a at hT ⊢
  clear hC1 hC2 hone1 hone2
  refine Code.wp_mono (Q := (fun (e : Exit) (act : Act) (wv : World) => e = Exit.normal ∧ ∃ (q9 q11 : Nat) (DA DB DL : Array Value), act = ⟨#[.agg C1, .int .u64 lc, .agg C2, .int .u64 oc, .pointer (some ⟨a, 0, none⟩), undef, .pointer (some ⟨b, 0, none⟩), undef, .bool false, .pointer (some ⟨q9, 0, none⟩), .int .u64 (IntKind.u64.wrap (lc + oc)), .pointer (some ⟨q11, 0, none⟩), .int .u64 oc, undef, undef, undef, undef, .agg C1, .agg D1, .agg C2, .agg D2, .tuple #[.agg DL, .int .u64 (IntKind.u64.wrap (lc + oc)), .agg DB, .int .u64 oc], .agg D1, .agg DA, .int .u64 lc, .agg D2, .agg DB, .int .u64 oc, .tuple #[.agg DL, .int .u64 (IntKind.u64.wrap (lc + oc)), .agg DB, .int .u64 oc], .agg DL, .int .u64 (IntKind.u64.wrap (lc + oc)), .agg DB, .int .u64 oc, undef, undef, undef, undef, undef, undef, undef, undef, undef, undef, undef, undef, undef, undef, undef, undef, undef, undef, undef, undef], []⟩ ∧ DN wz wv G1 G2 DL q9)) ?_ (region_named fun ops hops => ?_)
  rotate_left
  · have hsz : ops.size = 18 := by subst hops; rfl
    simp only [Act.put]
    refine wp_region_held_drew (S := fun wv => Below wz.heap.size wz wv) (by kernel_rfl) ⟨rfl, rfl, rfl, Nat.le_refl _, fun _ _ => rfl⟩ (fun hS => ?_)
    rw [hsz]
    generalize hQm : (fun (e : Exit) (act : Act) (wv : World) => e = Exit.normal ∧ ∃ (q9 q11 : Nat) (DA DB DL : Array Value), act = ⟨#[.agg C1, .int .u64 lc, .agg C2, .int .u64 oc, .pointer (some ⟨a, 0, none⟩), undef, .pointer (some ⟨b, 0, none⟩), undef, .bool false, .pointer (some ⟨q9, 0, none⟩), .int .u64 (IntKind.u64.wrap (lc + oc)), .pointer (some ⟨q11, 0, none⟩), .int .u64 oc, undef, undef, undef, undef, .agg C1, .agg D1, .agg C2, .agg D2, .tuple #[.agg DL, .int .u64 (IntKind.u64.wrap (lc + oc)), .agg DB, .int .u64 oc], .agg D1, .agg DA, .int .u64 lc, .agg D2, .agg DB, .int .u64 oc, .tuple #[.agg DL, .int .u64 (IntKind.u64.wrap (lc + oc)), .agg DB, .int .u64 oc], .agg DL, .int .u64 (IntKind.u64.wrap (lc + oc)), .agg DB, .int .u64 oc, undef, undef, undef, undef, undef, undef, undef, undef, undef, undef, undef, undef, undef, undef, undef, undef, undef, undef, undef, undef], []⟩ ∧ DN wz wv G1 G2 DL q9) = Qm
    have H311' : ∀ (wv : World) (q9 : Nat) (q11 : Nat) (l u : Nat) (DA : Array Value) (l' u' : Nat) (DB : Array Value) (DL : Array Value), RD wz wv G1 G2 DL (some q9) (some q11) → DB.size = 54 → DB.all (·.oneCell') = true → wpAnyH Try.prog .any ops Qm (fun wv => Below wz.heap.size wz wv) 4 #[true, true, true, true, true, true, true, true, true, true, true, true, true, true, false, false, false, false] ⟨#[.agg C1, .int .u64 lc, .agg C2, .int .u64 oc, .pointer (some ⟨a, 0, none⟩), undef, .pointer (some ⟨b, 0, none⟩), undef, .bool false, .pointer (some ⟨q9, 0, none⟩), undef, .pointer (some ⟨q11, 0, none⟩), undef, undef, undef, undef, undef, .agg C1, .agg D1, .agg C2, .agg D2, .tuple #[.agg DL, .int .u64 (IntKind.u64.wrap (lc + oc)), .agg DB, .int .u64 oc], .agg D1, .agg DA, .int .u64 lc, .agg D2, .agg DB, .int .u64 oc, .tuple #[.agg DL, .int .u64 (IntKind.u64.wrap (lc + oc)), .agg DB, .int .u64 oc], .agg DL, .int .u64 (IntKind.u64.wrap (lc + oc)), .agg DB, .int .u64 oc, undef, undef, undef, undef, undef, undef, undef, undef, undef, undef, undef, undef, undef, undef, undef, undef, undef, undef, undef, undef], []⟩ wv := by
      intro wv q9 q11 l u DA l' u' DB DL h hB oB
      subst hops hQm
      obtain ⟨G', hP, hG⟩ := h.rows
      have hDL := hP.size
      have oDL := hP.oneCell
      refine wpAnyH_ready (rs := [14]) (by kernel_rfl) (by simp) ?_
      refine AllReadyH.cons rfl (fun K hK => ?_) AllReadyH.nil
      rw [if_pos (by rfl)]
      refine wp_store_row 35 (.tmp 9) (.tmp 29) rfl q9 DL rfl rfl 35 Z35 (h.f9 q9 rfl).2 (by rw [hDL]; exact size35) (by rw [Z35_size, hDL]) oDL ?_
      refine hK.out _ _ (Below.setRow' h.bel (h.f9 q9 rfl).1 _) (fun hS => ?_)
      clear hK K
      try simp only [Act.put, List.getElem_toArray, List.getElem_cons_succ, List.getElem_cons_zero, List.setIfInBounds_toArray, List.set_cons_zero, List.set_cons_succ, List.toList_toArray]
      refine wpAnyH_ready (rs := [15]) (by kernel_rfl) (by simp) ?_
      refine AllReadyH.cons rfl (fun K hK => ?_) AllReadyH.nil
      rw [if_pos (by rfl)]
      go_simp
      refine hK.out _ _ hS (fun _ => ?_)
      clear hK K
      try simp only [Act.put, List.getElem_toArray, List.getElem_cons_succ, List.getElem_cons_zero, List.setIfInBounds_toArray, List.set_cons_zero, List.set_cons_succ, List.toList_toArray]
      refine wpAnyH_ready (rs := [16]) (by kernel_rfl) (by simp) ?_
      refine AllReadyH.cons rfl (fun K hK => ?_) AllReadyH.nil
      rw [if_pos (by rfl)]
      refine wp_store_row 35 (.tmp 11) (.tmp 31) rfl q11 DB rfl rfl 35 Z35 h.second (by rw [hB]; exact size35) (by rw [Z35_size, hB]) oB ?_
      refine hK.out _ _ (Below.setRow' hS (h.f11 q11 rfl).1 _) (fun hS2 => ?_)
      clear hK K
      try simp only [Act.put, List.getElem_toArray, List.getElem_cons_succ, List.getElem_cons_zero, List.setIfInBounds_toArray, List.set_cons_zero, List.set_cons_succ, List.toList_toArray]
      refine wpAnyH_ready (rs := [17]) (by kernel_rfl) (by simp) ?_
      refine AllReadyH.cons rfl (fun K hK => ?_) AllReadyH.nil
      rw [if_pos (by rfl)]
      go_simp
      refine hK.out _ _ hS2 (fun _ => ?_)
      clear hK K
      try simp only [Act.put, List.getElem_toArray, List.getElem_cons_succ, List.getElem_cons_zero, List.setIfInBounds_toArray, List.set_cons_zero, List.set_cons_succ, List.toList_toArray]
      refine wpAnyH_done (by kernel_rfl) ?_ _
      exact ⟨rfl, q9, q11, DA, DB, DL, rfl, h.stored⟩
    have H311 : Hid _ := H311'
    clear H311'
    have H310' : ∀ (wv : World) (q9 : Nat) (l u : Nat) (DA : Array Value) (l' u' : Nat) (DB : Array Value) (DL : Array Value), RD wz wv G1 G2 DL (some q9) none → DB.size = 54 → DB.all (·.oneCell') = true → wpAnyH Try.prog .any ops Qm (fun wv => Below wz.heap.size wz wv) 5 #[true, true, true, true, true, true, true, true, true, true, true, true, true, false, false, false, false, false] ⟨#[.agg C1, .int .u64 lc, .agg C2, .int .u64 oc, .pointer (some ⟨a, 0, none⟩), undef, .pointer (some ⟨b, 0, none⟩), undef, .bool false, .pointer (some ⟨q9, 0, none⟩), undef, undef, undef, undef, undef, undef, undef, .agg C1, .agg D1, .agg C2, .agg D2, .tuple #[.agg DL, .int .u64 (IntKind.u64.wrap (lc + oc)), .agg DB, .int .u64 oc], .agg D1, .agg DA, .int .u64 lc, .agg D2, .agg DB, .int .u64 oc, .tuple #[.agg DL, .int .u64 (IntKind.u64.wrap (lc + oc)), .agg DB, .int .u64 oc], .agg DL, .int .u64 (IntKind.u64.wrap (lc + oc)), .agg DB, .int .u64 oc, undef, undef, undef, undef, undef, undef, undef, undef, undef, undef, undef, undef, undef, undef, undef, undef, undef, undef, undef, undef], []⟩ wv := by
      intro wv q9 l u DA l' u' DB DL h hB oB
      subst hops hQm
      refine wpAnyH_ready (rs := [13]) (by kernel_rfl) (by simp) ?_
      refine AllReadyH.cons rfl (fun K hK => ?_) AllReadyH.nil
      rw [if_pos (by rfl)]
      go_simp
      refine hK.out _ _ (h.alloc11).bel (fun _ => ?_)
      clear hK K
      try simp only [Act.put, List.getElem_toArray, List.getElem_cons_succ, List.getElem_cons_zero, List.setIfInBounds_toArray, List.set_cons_zero, List.set_cons_succ, List.toList_toArray]
      exact wpAnyH_listed (by kernel_rfl) (H311.out _ q9 wv.heap.size l u DA l' u' DB DL h.alloc11 hB oB)
    have H310 : Hid _ := H310'
    clear H310'
    have H301' : ∀ (wv : World) (q11 : Nat) (l u : Nat) (DA : Array Value) (l' u' : Nat) (DB : Array Value) (DL : Array Value), RD wz wv G1 G2 DL none (some q11) → DB.size = 54 → DB.all (·.oneCell') = true → wpAnyH Try.prog .any ops Qm (fun wv => Below wz.heap.size wz wv) 5 #[true, true, true, true, true, true, true, true, true, true, true, true, false, true, false, false, false, false] ⟨#[.agg C1, .int .u64 lc, .agg C2, .int .u64 oc, .pointer (some ⟨a, 0, none⟩), undef, .pointer (some ⟨b, 0, none⟩), undef, .bool false, undef, undef, .pointer (some ⟨q11, 0, none⟩), undef, undef, undef, undef, undef, .agg C1, .agg D1, .agg C2, .agg D2, .tuple #[.agg DL, .int .u64 (IntKind.u64.wrap (lc + oc)), .agg DB, .int .u64 oc], .agg D1, .agg DA, .int .u64 lc, .agg D2, .agg DB, .int .u64 oc, .tuple #[.agg DL, .int .u64 (IntKind.u64.wrap (lc + oc)), .agg DB, .int .u64 oc], .agg DL, .int .u64 (IntKind.u64.wrap (lc + oc)), .agg DB, .int .u64 oc, undef, undef, undef, undef, undef, undef, undef, undef, undef, undef, undef, undef, undef, undef, undef, undef, undef, undef, undef, undef], []⟩ wv := by
      intro wv q11 l u DA l' u' DB DL h hB oB
      subst hops hQm
      refine wpAnyH_ready (rs := [12]) (by kernel_rfl) (by simp) ?_
      refine AllReadyH.cons rfl (fun K hK => ?_) AllReadyH.nil
      rw [if_pos (by rfl)]
      go_simp
      refine hK.out _ _ (h.alloc9).bel (fun _ => ?_)
      clear hK K
      try simp only [Act.put, List.getElem_toArray, List.getElem_cons_succ, List.getElem_cons_zero, List.setIfInBounds_toArray, List.set_cons_zero, List.set_cons_succ, List.toList_toArray]
      exact wpAnyH_listed (by kernel_rfl) (H311.out _ wv.heap.size q11 l u DA l' u' DB DL h.alloc9 hB oB)
    have H301 : Hid _ := H301'
    clear H301'
    have H300' : ∀ (wv : World) (l u : Nat) (DA : Array Value) (l' u' : Nat) (DB : Array Value) (DL : Array Value), RD wz wv G1 G2 DL none none → DB.size = 54 → DB.all (·.oneCell') = true → wpAnyH Try.prog .any ops Qm (fun wv => Below wz.heap.size wz wv) 6 #[true, true, true, true, true, true, true, true, true, true, true, true, false, false, false, false, false, false] ⟨#[.agg C1, .int .u64 lc, .agg C2, .int .u64 oc, .pointer (some ⟨a, 0, none⟩), undef, .pointer (some ⟨b, 0, none⟩), undef, .bool false, undef, undef, undef, undef, undef, undef, undef, undef, .agg C1, .agg D1, .agg C2, .agg D2, .tuple #[.agg DL, .int .u64 (IntKind.u64.wrap (lc + oc)), .agg DB, .int .u64 oc], .agg D1, .agg DA, .int .u64 lc, .agg D2, .agg DB, .int .u64 oc, .tuple #[.agg DL, .int .u64 (IntKind.u64.wrap (lc + oc)), .agg DB, .int .u64 oc], .agg DL, .int .u64 (IntKind.u64.wrap (lc + oc)), .agg DB, .int .u64 oc, undef, undef, undef, undef, undef, undef, undef, undef, undef, undef, undef, undef, undef, undef, undef, undef, undef, undef, undef, undef], []⟩ wv := by
      intro wv l u DA l' u' DB DL h hB oB
      subst hops hQm
      refine wpAnyH_ready (rs := [12, 13]) (by kernel_rfl) (by simp) ?_
      refine AllReadyH.cons rfl (fun K hK => ?_) ?_
      · rw [if_pos (by rfl)]
        go_simp
        refine hK.out _ _ (h.alloc9).bel (fun _ => ?_)
        clear hK K
        try simp only [Act.put, List.getElem_toArray, List.getElem_cons_succ, List.getElem_cons_zero, List.setIfInBounds_toArray, List.set_cons_zero, List.set_cons_succ, List.toList_toArray]
        exact wpAnyH_listed (by kernel_rfl) (H310.out _ wv.heap.size l u DA l' u' DB DL h.alloc9 hB oB)
      refine AllReadyH.cons rfl (fun K hK => ?_) AllReadyH.nil
      rw [if_pos (by rfl)]
      go_simp
      refine hK.out _ _ (h.alloc11).bel (fun _ => ?_)
      clear hK K
      try simp only [Act.put, List.getElem_toArray, List.getElem_cons_succ, List.getElem_cons_zero, List.setIfInBounds_toArray, List.set_cons_zero, List.set_cons_succ, List.toList_toArray]
      exact wpAnyH_listed (by kernel_rfl) (H301.out _ wv.heap.size l u DA l' u' DB DL h.alloc11 hB oB)
    have H300 : Hid _ := H300'
    clear H300'
    have H211' : ∀ (wv : World) (q9 : Nat) (q11 : Nat) (l u : Nat) (DA : Array Value) (l' u' : Nat) (DB : Array Value), RG wz wv G1 G2 (some (l, u, DA)) (some (l', u', DB)) (some q9) (some q11) → wpAnyH Try.prog .any ops Qm (fun wv => Below wz.heap.size wz wv) 10 #[true, true, true, true, true, true, false, false, false, false, false, false, true, true, false, false, false, false] ⟨#[.agg C1, .int .u64 lc, .agg C2, .int .u64 oc, .pointer (some ⟨a, 0, none⟩), undef, .pointer (some ⟨b, 0, none⟩), undef, .bool false, .pointer (some ⟨q9, 0, none⟩), undef, .pointer (some ⟨q11, 0, none⟩), undef, undef, undef, undef, undef, .agg C1, .agg D1, .agg C2, .agg D2, undef, .agg D1, .agg DA, .int .u64 lc, .agg D2, .agg DB, .int .u64 oc, undef, undef, undef, undef, undef, undef, undef, undef, undef, undef, undef, undef, undef, undef, undef, undef, undef, undef, undef, undef, undef, undef, undef, undef, undef], []⟩ wv := by
      intro wv q9 q11 l u DA l' u' DB h
      subst hops hQm
      refine wpAnyH_ready (rs := [6]) (by kernel_rfl) (by simp) ?_
      refine AllReadyH.cons rfl (fun K hK => ?_) AllReadyH.nil
      rw [if_pos (by rfl)]
      go_simp
      obtain ⟨a1, a2, a3, a4, a5⟩ := h.h3 l u DA rfl
      obtain ⟨b1, b2, b3⟩ := h.h4 l' u' DB rfl
      refine (zzadd_any wv l u l' u' DA lc DB oc G1 G2 a3 b3 (.inr (h.ap l u DA l' u' DB rfl rfl)) a2 b2 hf2).mono ?_
      rintro e w' ⟨DL, G', rfl, hP, hG, hO⟩
      have hd := h.add hP hG hO
      refine hK.out _ _ hd.bel (fun hS => ?_)
      clear hK K
      try simp only [Act.put, List.getElem_toArray, List.getElem_cons_succ, List.getElem_cons_zero, List.setIfInBounds_toArray, List.set_cons_zero, List.set_cons_succ, List.toList_toArray]
      refine wpAnyH_take (i := 7) (v := .tuple #[.agg DL, .int .u64 (IntKind.u64.wrap (lc + oc)), .agg DB, .int .u64 oc]) rfl (by kernel_rfl) (by kernel_rfl) (by kernel_rfl) (fun _ _ _ h => by cases h.1) (Or.inl ⟨by rfl, fun w _ => by go_simp⟩) hS ?_
      try simp only [Act.put, List.getElem_toArray, List.getElem_cons_succ, List.getElem_cons_zero, List.setIfInBounds_toArray, List.set_cons_zero, List.set_cons_succ, List.toList_toArray]
      refine wpAnyH_take (i := 8) (v := .agg DL) rfl (by kernel_rfl) (by kernel_rfl) (by kernel_rfl) (fun _ _ _ h => by cases h.1) (Or.inl ⟨by rfl, fun w _ => by go_simp⟩) hS ?_
      try simp only [Act.put, List.getElem_toArray, List.getElem_cons_succ, List.getElem_cons_zero, List.setIfInBounds_toArray, List.set_cons_zero, List.set_cons_succ, List.toList_toArray]
      refine wpAnyH_take (i := 9) (v := .int .u64 (IntKind.u64.wrap (lc + oc))) rfl (by kernel_rfl) (by kernel_rfl) (by kernel_rfl) (fun _ _ _ h => by cases h.1) (Or.inl ⟨by rfl, fun w _ => by go_simp⟩) hS ?_
      try simp only [Act.put, List.getElem_toArray, List.getElem_cons_succ, List.getElem_cons_zero, List.setIfInBounds_toArray, List.set_cons_zero, List.set_cons_succ, List.toList_toArray]
      refine wpAnyH_take (i := 10) (v := .agg DB) rfl (by kernel_rfl) (by kernel_rfl) (by kernel_rfl) (fun _ _ _ h => by cases h.1) (Or.inl ⟨by rfl, fun w _ => by go_simp⟩) hS ?_
      try simp only [Act.put, List.getElem_toArray, List.getElem_cons_succ, List.getElem_cons_zero, List.setIfInBounds_toArray, List.set_cons_zero, List.set_cons_succ, List.toList_toArray]
      refine wpAnyH_take (i := 11) (v := .int .u64 oc) rfl (by kernel_rfl) (by kernel_rfl) (by kernel_rfl) (fun _ _ _ h => by cases h.1) (Or.inl ⟨by rfl, fun w _ => by go_simp⟩) hS ?_
      try simp only [Act.put, List.getElem_toArray, List.getElem_cons_succ, List.getElem_cons_zero, List.setIfInBounds_toArray, List.set_cons_zero, List.set_cons_succ, List.toList_toArray]
      exact wpAnyH_listed (by kernel_rfl) (H311.out _ q9 q11 l u DA l' u' DB DL hd b3.size b3.oneCell)
    have H211 : Hid _ := H211'
    clear H211'
    have H210' : ∀ (wv : World) (q9 : Nat) (l u : Nat) (DA : Array Value) (l' u' : Nat) (DB : Array Value), RG wz wv G1 G2 (some (l, u, DA)) (some (l', u', DB)) (some q9) none → wpAnyH Try.prog .any ops Qm (fun wv => Below wz.heap.size wz wv) 11 #[true, true, true, true, true, true, false, false, false, false, false, false, true, false, false, false, false, false] ⟨#[.agg C1, .int .u64 lc, .agg C2, .int .u64 oc, .pointer (some ⟨a, 0, none⟩), undef, .pointer (some ⟨b, 0, none⟩), undef, .bool false, .pointer (some ⟨q9, 0, none⟩), undef, undef, undef, undef, undef, undef, undef, .agg C1, .agg D1, .agg C2, .agg D2, undef, .agg D1, .agg DA, .int .u64 lc, .agg D2, .agg DB, .int .u64 oc, undef, undef, undef, undef, undef, undef, undef, undef, undef, undef, undef, undef, undef, undef, undef, undef, undef, undef, undef, undef, undef, undef, undef, undef, undef], []⟩ wv := by
      intro wv q9 l u DA l' u' DB h
      subst hops hQm
      refine wpAnyH_ready (rs := [6, 13]) (by kernel_rfl) (by simp) ?_
      refine AllReadyH.cons rfl (fun K hK => ?_) ?_
      · rw [if_pos (by rfl)]
        go_simp
        obtain ⟨a1, a2, a3, a4, a5⟩ := h.h3 l u DA rfl
        obtain ⟨b1, b2, b3⟩ := h.h4 l' u' DB rfl
        refine (zzadd_any wv l u l' u' DA lc DB oc G1 G2 a3 b3 (.inr (h.ap l u DA l' u' DB rfl rfl)) a2 b2 hf2).mono ?_
        rintro e w' ⟨DL, G', rfl, hP, hG, hO⟩
        have hd := h.add hP hG hO
        refine hK.out _ _ hd.bel (fun hS => ?_)
        clear hK K
        try simp only [Act.put, List.getElem_toArray, List.getElem_cons_succ, List.getElem_cons_zero, List.setIfInBounds_toArray, List.set_cons_zero, List.set_cons_succ, List.toList_toArray]
        refine wpAnyH_take (i := 7) (v := .tuple #[.agg DL, .int .u64 (IntKind.u64.wrap (lc + oc)), .agg DB, .int .u64 oc]) rfl (by kernel_rfl) (by kernel_rfl) (by kernel_rfl) (fun _ _ _ h => by cases h.1) (Or.inl ⟨by rfl, fun w _ => by go_simp⟩) hS ?_
        try simp only [Act.put, List.getElem_toArray, List.getElem_cons_succ, List.getElem_cons_zero, List.setIfInBounds_toArray, List.set_cons_zero, List.set_cons_succ, List.toList_toArray]
        refine wpAnyH_take (i := 8) (v := .agg DL) rfl (by kernel_rfl) (by kernel_rfl) (by kernel_rfl) (fun _ _ _ h => by cases h.1) (Or.inl ⟨by rfl, fun w _ => by go_simp⟩) hS ?_
        try simp only [Act.put, List.getElem_toArray, List.getElem_cons_succ, List.getElem_cons_zero, List.setIfInBounds_toArray, List.set_cons_zero, List.set_cons_succ, List.toList_toArray]
        refine wpAnyH_take (i := 9) (v := .int .u64 (IntKind.u64.wrap (lc + oc))) rfl (by kernel_rfl) (by kernel_rfl) (by kernel_rfl) (fun _ _ _ h => by cases h.1) (Or.inl ⟨by rfl, fun w _ => by go_simp⟩) hS ?_
        try simp only [Act.put, List.getElem_toArray, List.getElem_cons_succ, List.getElem_cons_zero, List.setIfInBounds_toArray, List.set_cons_zero, List.set_cons_succ, List.toList_toArray]
        refine wpAnyH_take (i := 10) (v := .agg DB) rfl (by kernel_rfl) (by kernel_rfl) (by kernel_rfl) (fun _ _ _ h => by cases h.1) (Or.inl ⟨by rfl, fun w _ => by go_simp⟩) hS ?_
        try simp only [Act.put, List.getElem_toArray, List.getElem_cons_succ, List.getElem_cons_zero, List.setIfInBounds_toArray, List.set_cons_zero, List.set_cons_succ, List.toList_toArray]
        refine wpAnyH_take (i := 11) (v := .int .u64 oc) rfl (by kernel_rfl) (by kernel_rfl) (by kernel_rfl) (fun _ _ _ h => by cases h.1) (Or.inl ⟨by rfl, fun w _ => by go_simp⟩) hS ?_
        try simp only [Act.put, List.getElem_toArray, List.getElem_cons_succ, List.getElem_cons_zero, List.setIfInBounds_toArray, List.set_cons_zero, List.set_cons_succ, List.toList_toArray]
        exact wpAnyH_listed (by kernel_rfl) (H310.out _ q9 l u DA l' u' DB DL hd b3.size b3.oneCell)
      refine AllReadyH.cons rfl (fun K hK => ?_) AllReadyH.nil
      rw [if_pos (by rfl)]
      go_simp
      refine hK.out _ _ (h.alloc11).bel (fun _ => ?_)
      clear hK K
      try simp only [Act.put, List.getElem_toArray, List.getElem_cons_succ, List.getElem_cons_zero, List.setIfInBounds_toArray, List.set_cons_zero, List.set_cons_succ, List.toList_toArray]
      exact wpAnyH_listed (by kernel_rfl) (H211.out _ q9 wv.heap.size l u DA l' u' DB h.alloc11)
    have H210 : Hid _ := H210'
    clear H210'
    have H201' : ∀ (wv : World) (q11 : Nat) (l u : Nat) (DA : Array Value) (l' u' : Nat) (DB : Array Value), RG wz wv G1 G2 (some (l, u, DA)) (some (l', u', DB)) none (some q11) → wpAnyH Try.prog .any ops Qm (fun wv => Below wz.heap.size wz wv) 11 #[true, true, true, true, true, true, false, false, false, false, false, false, false, true, false, false, false, false] ⟨#[.agg C1, .int .u64 lc, .agg C2, .int .u64 oc, .pointer (some ⟨a, 0, none⟩), undef, .pointer (some ⟨b, 0, none⟩), undef, .bool false, undef, undef, .pointer (some ⟨q11, 0, none⟩), undef, undef, undef, undef, undef, .agg C1, .agg D1, .agg C2, .agg D2, undef, .agg D1, .agg DA, .int .u64 lc, .agg D2, .agg DB, .int .u64 oc, undef, undef, undef, undef, undef, undef, undef, undef, undef, undef, undef, undef, undef, undef, undef, undef, undef, undef, undef, undef, undef, undef, undef, undef, undef], []⟩ wv := by
      intro wv q11 l u DA l' u' DB h
      subst hops hQm
      refine wpAnyH_ready (rs := [6, 12]) (by kernel_rfl) (by simp) ?_
      refine AllReadyH.cons rfl (fun K hK => ?_) ?_
      · rw [if_pos (by rfl)]
        go_simp
        obtain ⟨a1, a2, a3, a4, a5⟩ := h.h3 l u DA rfl
        obtain ⟨b1, b2, b3⟩ := h.h4 l' u' DB rfl
        refine (zzadd_any wv l u l' u' DA lc DB oc G1 G2 a3 b3 (.inr (h.ap l u DA l' u' DB rfl rfl)) a2 b2 hf2).mono ?_
        rintro e w' ⟨DL, G', rfl, hP, hG, hO⟩
        have hd := h.add hP hG hO
        refine hK.out _ _ hd.bel (fun hS => ?_)
        clear hK K
        try simp only [Act.put, List.getElem_toArray, List.getElem_cons_succ, List.getElem_cons_zero, List.setIfInBounds_toArray, List.set_cons_zero, List.set_cons_succ, List.toList_toArray]
        refine wpAnyH_take (i := 7) (v := .tuple #[.agg DL, .int .u64 (IntKind.u64.wrap (lc + oc)), .agg DB, .int .u64 oc]) rfl (by kernel_rfl) (by kernel_rfl) (by kernel_rfl) (fun _ _ _ h => by cases h.1) (Or.inl ⟨by rfl, fun w _ => by go_simp⟩) hS ?_
        try simp only [Act.put, List.getElem_toArray, List.getElem_cons_succ, List.getElem_cons_zero, List.setIfInBounds_toArray, List.set_cons_zero, List.set_cons_succ, List.toList_toArray]
        refine wpAnyH_take (i := 8) (v := .agg DL) rfl (by kernel_rfl) (by kernel_rfl) (by kernel_rfl) (fun _ _ _ h => by cases h.1) (Or.inl ⟨by rfl, fun w _ => by go_simp⟩) hS ?_
        try simp only [Act.put, List.getElem_toArray, List.getElem_cons_succ, List.getElem_cons_zero, List.setIfInBounds_toArray, List.set_cons_zero, List.set_cons_succ, List.toList_toArray]
        refine wpAnyH_take (i := 9) (v := .int .u64 (IntKind.u64.wrap (lc + oc))) rfl (by kernel_rfl) (by kernel_rfl) (by kernel_rfl) (fun _ _ _ h => by cases h.1) (Or.inl ⟨by rfl, fun w _ => by go_simp⟩) hS ?_
        try simp only [Act.put, List.getElem_toArray, List.getElem_cons_succ, List.getElem_cons_zero, List.setIfInBounds_toArray, List.set_cons_zero, List.set_cons_succ, List.toList_toArray]
        refine wpAnyH_take (i := 10) (v := .agg DB) rfl (by kernel_rfl) (by kernel_rfl) (by kernel_rfl) (fun _ _ _ h => by cases h.1) (Or.inl ⟨by rfl, fun w _ => by go_simp⟩) hS ?_
        try simp only [Act.put, List.getElem_toArray, List.getElem_cons_succ, List.getElem_cons_zero, List.setIfInBounds_toArray, List.set_cons_zero, List.set_cons_succ, List.toList_toArray]
        refine wpAnyH_take (i := 11) (v := .int .u64 oc) rfl (by kernel_rfl) (by kernel_rfl) (by kernel_rfl) (fun _ _ _ h => by cases h.1) (Or.inl ⟨by rfl, fun w _ => by go_simp⟩) hS ?_
        try simp only [Act.put, List.getElem_toArray, List.getElem_cons_succ, List.getElem_cons_zero, List.setIfInBounds_toArray, List.set_cons_zero, List.set_cons_succ, List.toList_toArray]
        exact wpAnyH_listed (by kernel_rfl) (H301.out _ q11 l u DA l' u' DB DL hd b3.size b3.oneCell)
      refine AllReadyH.cons rfl (fun K hK => ?_) AllReadyH.nil
      rw [if_pos (by rfl)]
      go_simp
      refine hK.out _ _ (h.alloc9).bel (fun _ => ?_)
      clear hK K
      try simp only [Act.put, List.getElem_toArray, List.getElem_cons_succ, List.getElem_cons_zero, List.setIfInBounds_toArray, List.set_cons_zero, List.set_cons_succ, List.toList_toArray]
      exact wpAnyH_listed (by kernel_rfl) (H211.out _ wv.heap.size q11 l u DA l' u' DB h.alloc9)
    have H201 : Hid _ := H201'
    clear H201'
    have H200' : ∀ (wv : World) (l u : Nat) (DA : Array Value) (l' u' : Nat) (DB : Array Value), RG wz wv G1 G2 (some (l, u, DA)) (some (l', u', DB)) none none → wpAnyH Try.prog .any ops Qm (fun wv => Below wz.heap.size wz wv) 12 #[true, true, true, true, true, true, false, false, false, false, false, false, false, false, false, false, false, false] ⟨#[.agg C1, .int .u64 lc, .agg C2, .int .u64 oc, .pointer (some ⟨a, 0, none⟩), undef, .pointer (some ⟨b, 0, none⟩), undef, .bool false, undef, undef, undef, undef, undef, undef, undef, undef, .agg C1, .agg D1, .agg C2, .agg D2, undef, .agg D1, .agg DA, .int .u64 lc, .agg D2, .agg DB, .int .u64 oc, undef, undef, undef, undef, undef, undef, undef, undef, undef, undef, undef, undef, undef, undef, undef, undef, undef, undef, undef, undef, undef, undef, undef, undef, undef], []⟩ wv := by
      intro wv l u DA l' u' DB h
      subst hops hQm
      refine wpAnyH_ready (rs := [6, 12, 13]) (by kernel_rfl) (by simp) ?_
      refine AllReadyH.cons rfl (fun K hK => ?_) ?_
      · rw [if_pos (by rfl)]
        go_simp
        obtain ⟨a1, a2, a3, a4, a5⟩ := h.h3 l u DA rfl
        obtain ⟨b1, b2, b3⟩ := h.h4 l' u' DB rfl
        refine (zzadd_any wv l u l' u' DA lc DB oc G1 G2 a3 b3 (.inr (h.ap l u DA l' u' DB rfl rfl)) a2 b2 hf2).mono ?_
        rintro e w' ⟨DL, G', rfl, hP, hG, hO⟩
        have hd := h.add hP hG hO
        refine hK.out _ _ hd.bel (fun hS => ?_)
        clear hK K
        try simp only [Act.put, List.getElem_toArray, List.getElem_cons_succ, List.getElem_cons_zero, List.setIfInBounds_toArray, List.set_cons_zero, List.set_cons_succ, List.toList_toArray]
        refine wpAnyH_take (i := 7) (v := .tuple #[.agg DL, .int .u64 (IntKind.u64.wrap (lc + oc)), .agg DB, .int .u64 oc]) rfl (by kernel_rfl) (by kernel_rfl) (by kernel_rfl) (fun _ _ _ h => by cases h.1) (Or.inl ⟨by rfl, fun w _ => by go_simp⟩) hS ?_
        try simp only [Act.put, List.getElem_toArray, List.getElem_cons_succ, List.getElem_cons_zero, List.setIfInBounds_toArray, List.set_cons_zero, List.set_cons_succ, List.toList_toArray]
        refine wpAnyH_take (i := 8) (v := .agg DL) rfl (by kernel_rfl) (by kernel_rfl) (by kernel_rfl) (fun _ _ _ h => by cases h.1) (Or.inl ⟨by rfl, fun w _ => by go_simp⟩) hS ?_
        try simp only [Act.put, List.getElem_toArray, List.getElem_cons_succ, List.getElem_cons_zero, List.setIfInBounds_toArray, List.set_cons_zero, List.set_cons_succ, List.toList_toArray]
        refine wpAnyH_take (i := 9) (v := .int .u64 (IntKind.u64.wrap (lc + oc))) rfl (by kernel_rfl) (by kernel_rfl) (by kernel_rfl) (fun _ _ _ h => by cases h.1) (Or.inl ⟨by rfl, fun w _ => by go_simp⟩) hS ?_
        try simp only [Act.put, List.getElem_toArray, List.getElem_cons_succ, List.getElem_cons_zero, List.setIfInBounds_toArray, List.set_cons_zero, List.set_cons_succ, List.toList_toArray]
        refine wpAnyH_take (i := 10) (v := .agg DB) rfl (by kernel_rfl) (by kernel_rfl) (by kernel_rfl) (fun _ _ _ h => by cases h.1) (Or.inl ⟨by rfl, fun w _ => by go_simp⟩) hS ?_
        try simp only [Act.put, List.getElem_toArray, List.getElem_cons_succ, List.getElem_cons_zero, List.setIfInBounds_toArray, List.set_cons_zero, List.set_cons_succ, List.toList_toArray]
        refine wpAnyH_take (i := 11) (v := .int .u64 oc) rfl (by kernel_rfl) (by kernel_rfl) (by kernel_rfl) (fun _ _ _ h => by cases h.1) (Or.inl ⟨by rfl, fun w _ => by go_simp⟩) hS ?_
        try simp only [Act.put, List.getElem_toArray, List.getElem_cons_succ, List.getElem_cons_zero, List.setIfInBounds_toArray, List.set_cons_zero, List.set_cons_succ, List.toList_toArray]
        exact wpAnyH_listed (by kernel_rfl) (H300.out _ l u DA l' u' DB DL hd b3.size b3.oneCell)
      refine AllReadyH.cons rfl (fun K hK => ?_) ?_
      · rw [if_pos (by rfl)]
        go_simp
        refine hK.out _ _ (h.alloc9).bel (fun _ => ?_)
        clear hK K
        try simp only [Act.put, List.getElem_toArray, List.getElem_cons_succ, List.getElem_cons_zero, List.setIfInBounds_toArray, List.set_cons_zero, List.set_cons_succ, List.toList_toArray]
        exact wpAnyH_listed (by kernel_rfl) (H210.out _ wv.heap.size l u DA l' u' DB h.alloc9)
      refine AllReadyH.cons rfl (fun K hK => ?_) AllReadyH.nil
      rw [if_pos (by rfl)]
      go_simp
      refine hK.out _ _ (h.alloc11).bel (fun _ => ?_)
      clear hK K
      try simp only [Act.put, List.getElem_toArray, List.getElem_cons_succ, List.getElem_cons_zero, List.setIfInBounds_toArray, List.set_cons_zero, List.set_cons_succ, List.toList_toArray]
      exact wpAnyH_listed (by kernel_rfl) (H201.out _ wv.heap.size l u DA l' u' DB h.alloc11)
    have H200 : Hid _ := H200'
    clear H200'
    have H111' : ∀ (wv : World) (q9 : Nat) (q11 : Nat) (l u : Nat) (DA : Array Value), RG wz wv G1 G2 (some (l, u, DA)) none (some q9) (some q11) → wpAnyH Try.prog .any ops Qm (fun wv => Below wz.heap.size wz wv) 11 #[true, true, true, true, false, true, false, false, false, false, false, false, true, true, false, false, false, false] ⟨#[.agg C1, .int .u64 lc, .agg C2, .int .u64 oc, .pointer (some ⟨a, 0, none⟩), undef, .pointer (some ⟨b, 0, none⟩), undef, .bool false, .pointer (some ⟨q9, 0, none⟩), undef, .pointer (some ⟨q11, 0, none⟩), undef, undef, undef, undef, undef, .agg C1, .agg D1, .agg C2, .agg D2, undef, .agg D1, .agg DA, .int .u64 lc, .agg D2, undef, .int .u64 oc, undef, undef, undef, undef, undef, undef, undef, undef, undef, undef, undef, undef, undef, undef, undef, undef, undef, undef, undef, undef, undef, undef, undef, undef, undef], []⟩ wv := by
      intro wv q9 q11 l u DA h
      subst hops hQm
      refine wpAnyH_ready (rs := [4]) (by kernel_rfl) (by simp) ?_
      refine AllReadyH.cons rfl (fun K hK => ?_) AllReadyH.nil
      rw [if_pos (by rfl)]
      go_simp
      refine (clone_any D2 G2 wv (hT.H2.seen.below h.bel (Nat.le_refl _))).mono ?_
      rintro e w' ⟨DB, rfl, hH, hb⟩
      have hd := h.clone4 hH hb
      refine hK.out _ _ hd.bel (fun _ => ?_)
      clear hK K
      try simp only [Act.put, List.getElem_toArray, List.getElem_cons_succ, List.getElem_cons_zero, List.setIfInBounds_toArray, List.set_cons_zero, List.set_cons_succ, List.toList_toArray]
      exact wpAnyH_listed (by kernel_rfl) (H211.out _ q9 q11 _ _ DA _ _ DB hd)
    have H111 : Hid _ := H111'
    clear H111'
    have H110' : ∀ (wv : World) (q9 : Nat) (l u : Nat) (DA : Array Value), RG wz wv G1 G2 (some (l, u, DA)) none (some q9) none → wpAnyH Try.prog .any ops Qm (fun wv => Below wz.heap.size wz wv) 12 #[true, true, true, true, false, true, false, false, false, false, false, false, true, false, false, false, false, false] ⟨#[.agg C1, .int .u64 lc, .agg C2, .int .u64 oc, .pointer (some ⟨a, 0, none⟩), undef, .pointer (some ⟨b, 0, none⟩), undef, .bool false, .pointer (some ⟨q9, 0, none⟩), undef, undef, undef, undef, undef, undef, undef, .agg C1, .agg D1, .agg C2, .agg D2, undef, .agg D1, .agg DA, .int .u64 lc, .agg D2, undef, .int .u64 oc, undef, undef, undef, undef, undef, undef, undef, undef, undef, undef, undef, undef, undef, undef, undef, undef, undef, undef, undef, undef, undef, undef, undef, undef, undef], []⟩ wv := by
      intro wv q9 l u DA h
      subst hops hQm
      refine wpAnyH_ready (rs := [4, 13]) (by kernel_rfl) (by simp) ?_
      refine AllReadyH.cons rfl (fun K hK => ?_) ?_
      · rw [if_pos (by rfl)]
        go_simp
        refine (clone_any D2 G2 wv (hT.H2.seen.below h.bel (Nat.le_refl _))).mono ?_
        rintro e w' ⟨DB, rfl, hH, hb⟩
        have hd := h.clone4 hH hb
        refine hK.out _ _ hd.bel (fun _ => ?_)
        clear hK K
        try simp only [Act.put, List.getElem_toArray, List.getElem_cons_succ, List.getElem_cons_zero, List.setIfInBounds_toArray, List.set_cons_zero, List.set_cons_succ, List.toList_toArray]
        exact wpAnyH_listed (by kernel_rfl) (H210.out _ q9 _ _ DA _ _ DB hd)
      refine AllReadyH.cons rfl (fun K hK => ?_) AllReadyH.nil
      rw [if_pos (by rfl)]
      go_simp
      refine hK.out _ _ (h.alloc11).bel (fun _ => ?_)
      clear hK K
      try simp only [Act.put, List.getElem_toArray, List.getElem_cons_succ, List.getElem_cons_zero, List.setIfInBounds_toArray, List.set_cons_zero, List.set_cons_succ, List.toList_toArray]
      exact wpAnyH_listed (by kernel_rfl) (H111.out _ q9 wv.heap.size l u DA h.alloc11)
    have H110 : Hid _ := H110'
    clear H110'
    have H101' : ∀ (wv : World) (q11 : Nat) (l u : Nat) (DA : Array Value), RG wz wv G1 G2 (some (l, u, DA)) none none (some q11) → wpAnyH Try.prog .any ops Qm (fun wv => Below wz.heap.size wz wv) 12 #[true, true, true, true, false, true, false, false, false, false, false, false, false, true, false, false, false, false] ⟨#[.agg C1, .int .u64 lc, .agg C2, .int .u64 oc, .pointer (some ⟨a, 0, none⟩), undef, .pointer (some ⟨b, 0, none⟩), undef, .bool false, undef, undef, .pointer (some ⟨q11, 0, none⟩), undef, undef, undef, undef, undef, .agg C1, .agg D1, .agg C2, .agg D2, undef, .agg D1, .agg DA, .int .u64 lc, .agg D2, undef, .int .u64 oc, undef, undef, undef, undef, undef, undef, undef, undef, undef, undef, undef, undef, undef, undef, undef, undef, undef, undef, undef, undef, undef, undef, undef, undef, undef], []⟩ wv := by
      intro wv q11 l u DA h
      subst hops hQm
      refine wpAnyH_ready (rs := [4, 12]) (by kernel_rfl) (by simp) ?_
      refine AllReadyH.cons rfl (fun K hK => ?_) ?_
      · rw [if_pos (by rfl)]
        go_simp
        refine (clone_any D2 G2 wv (hT.H2.seen.below h.bel (Nat.le_refl _))).mono ?_
        rintro e w' ⟨DB, rfl, hH, hb⟩
        have hd := h.clone4 hH hb
        refine hK.out _ _ hd.bel (fun _ => ?_)
        clear hK K
        try simp only [Act.put, List.getElem_toArray, List.getElem_cons_succ, List.getElem_cons_zero, List.setIfInBounds_toArray, List.set_cons_zero, List.set_cons_succ, List.toList_toArray]
        exact wpAnyH_listed (by kernel_rfl) (H201.out _ q11 _ _ DA _ _ DB hd)
      refine AllReadyH.cons rfl (fun K hK => ?_) AllReadyH.nil
      rw [if_pos (by rfl)]
      go_simp
      refine hK.out _ _ (h.alloc9).bel (fun _ => ?_)
      clear hK K
      try simp only [Act.put, List.getElem_toArray, List.getElem_cons_succ, List.getElem_cons_zero, List.setIfInBounds_toArray, List.set_cons_zero, List.set_cons_succ, List.toList_toArray]
      exact wpAnyH_listed (by kernel_rfl) (H111.out _ wv.heap.size q11 l u DA h.alloc9)
    have H101 : Hid _ := H101'
    clear H101'
    have H100' : ∀ (wv : World) (l u : Nat) (DA : Array Value), RG wz wv G1 G2 (some (l, u, DA)) none none none → wpAnyH Try.prog .any ops Qm (fun wv => Below wz.heap.size wz wv) 13 #[true, true, true, true, false, true, false, false, false, false, false, false, false, false, false, false, false, false] ⟨#[.agg C1, .int .u64 lc, .agg C2, .int .u64 oc, .pointer (some ⟨a, 0, none⟩), undef, .pointer (some ⟨b, 0, none⟩), undef, .bool false, undef, undef, undef, undef, undef, undef, undef, undef, .agg C1, .agg D1, .agg C2, .agg D2, undef, .agg D1, .agg DA, .int .u64 lc, .agg D2, undef, .int .u64 oc, undef, undef, undef, undef, undef, undef, undef, undef, undef, undef, undef, undef, undef, undef, undef, undef, undef, undef, undef, undef, undef, undef, undef, undef, undef], []⟩ wv := by
      intro wv l u DA h
      subst hops hQm
      refine wpAnyH_ready (rs := [4, 12, 13]) (by kernel_rfl) (by simp) ?_
      refine AllReadyH.cons rfl (fun K hK => ?_) ?_
      · rw [if_pos (by rfl)]
        go_simp
        refine (clone_any D2 G2 wv (hT.H2.seen.below h.bel (Nat.le_refl _))).mono ?_
        rintro e w' ⟨DB, rfl, hH, hb⟩
        have hd := h.clone4 hH hb
        refine hK.out _ _ hd.bel (fun _ => ?_)
        clear hK K
        try simp only [Act.put, List.getElem_toArray, List.getElem_cons_succ, List.getElem_cons_zero, List.setIfInBounds_toArray, List.set_cons_zero, List.set_cons_succ, List.toList_toArray]
        exact wpAnyH_listed (by kernel_rfl) (H200.out _ _ _ DA _ _ DB hd)
      refine AllReadyH.cons rfl (fun K hK => ?_) ?_
      · rw [if_pos (by rfl)]
        go_simp
        refine hK.out _ _ (h.alloc9).bel (fun _ => ?_)
        clear hK K
        try simp only [Act.put, List.getElem_toArray, List.getElem_cons_succ, List.getElem_cons_zero, List.setIfInBounds_toArray, List.set_cons_zero, List.set_cons_succ, List.toList_toArray]
        exact wpAnyH_listed (by kernel_rfl) (H110.out _ wv.heap.size l u DA h.alloc9)
      refine AllReadyH.cons rfl (fun K hK => ?_) AllReadyH.nil
      rw [if_pos (by rfl)]
      go_simp
      refine hK.out _ _ (h.alloc11).bel (fun _ => ?_)
      clear hK K
      try simp only [Act.put, List.getElem_toArray, List.getElem_cons_succ, List.getElem_cons_zero, List.setIfInBounds_toArray, List.set_cons_zero, List.set_cons_succ, List.toList_toArray]
      exact wpAnyH_listed (by kernel_rfl) (H101.out _ wv.heap.size l u DA h.alloc11)
    have H100 : Hid _ := H100'
    clear H100'
    have H011' : ∀ (wv : World) (q9 : Nat) (q11 : Nat), RG wz wv G1 G2 none none (some q9) (some q11) → wpAnyH Try.prog .any ops Qm (fun wv => Below wz.heap.size wz wv) 12 #[true, false, true, true, false, true, false, false, false, false, false, false, true, true, false, false, false, false] ⟨#[.agg C1, .int .u64 lc, .agg C2, .int .u64 oc, .pointer (some ⟨a, 0, none⟩), undef, .pointer (some ⟨b, 0, none⟩), undef, .bool false, .pointer (some ⟨q9, 0, none⟩), undef, .pointer (some ⟨q11, 0, none⟩), undef, undef, undef, undef, undef, .agg C1, .agg D1, .agg C2, .agg D2, undef, .agg D1, undef, .int .u64 lc, .agg D2, undef, .int .u64 oc, undef, undef, undef, undef, undef, undef, undef, undef, undef, undef, undef, undef, undef, undef, undef, undef, undef, undef, undef, undef, undef, undef, undef, undef, undef], []⟩ wv := by
      intro wv q9 q11 h
      subst hops hQm
      refine wpAnyH_ready (rs := [1]) (by kernel_rfl) (by simp) ?_
      refine AllReadyH.cons rfl (fun K hK => ?_) AllReadyH.nil
      rw [if_pos (by rfl)]
      go_simp
      refine (clone_any D1 G1 wv (hT.H1.seen.below h.bel (Nat.le_refl _))).mono ?_
      rintro e w' ⟨DA, rfl, hH, hb⟩
      have hd := h.clone3 hH hb
      refine hK.out _ _ hd.bel (fun _ => ?_)
      clear hK K
      try simp only [Act.put, List.getElem_toArray, List.getElem_cons_succ, List.getElem_cons_zero, List.setIfInBounds_toArray, List.set_cons_zero, List.set_cons_succ, List.toList_toArray]
      exact wpAnyH_listed (by kernel_rfl) (H111.out _ q9 q11 _ _ DA hd)
    have H011 : Hid _ := H011'
    clear H011'
    have H010' : ∀ (wv : World) (q9 : Nat), RG wz wv G1 G2 none none (some q9) none → wpAnyH Try.prog .any ops Qm (fun wv => Below wz.heap.size wz wv) 13 #[true, false, true, true, false, true, false, false, false, false, false, false, true, false, false, false, false, false] ⟨#[.agg C1, .int .u64 lc, .agg C2, .int .u64 oc, .pointer (some ⟨a, 0, none⟩), undef, .pointer (some ⟨b, 0, none⟩), undef, .bool false, .pointer (some ⟨q9, 0, none⟩), undef, undef, undef, undef, undef, undef, undef, .agg C1, .agg D1, .agg C2, .agg D2, undef, .agg D1, undef, .int .u64 lc, .agg D2, undef, .int .u64 oc, undef, undef, undef, undef, undef, undef, undef, undef, undef, undef, undef, undef, undef, undef, undef, undef, undef, undef, undef, undef, undef, undef, undef, undef, undef], []⟩ wv := by
      intro wv q9 h
      subst hops hQm
      refine wpAnyH_ready (rs := [1, 13]) (by kernel_rfl) (by simp) ?_
      refine AllReadyH.cons rfl (fun K hK => ?_) ?_
      · rw [if_pos (by rfl)]
        go_simp
        refine (clone_any D1 G1 wv (hT.H1.seen.below h.bel (Nat.le_refl _))).mono ?_
        rintro e w' ⟨DA, rfl, hH, hb⟩
        have hd := h.clone3 hH hb
        refine hK.out _ _ hd.bel (fun _ => ?_)
        clear hK K
        try simp only [Act.put, List.getElem_toArray, List.getElem_cons_succ, List.getElem_cons_zero, List.setIfInBounds_toArray, List.set_cons_zero, List.set_cons_succ, List.toList_toArray]
        exact wpAnyH_listed (by kernel_rfl) (H110.out _ q9 _ _ DA hd)
      refine AllReadyH.cons rfl (fun K hK => ?_) AllReadyH.nil
      rw [if_pos (by rfl)]
      go_simp
      refine hK.out _ _ (h.alloc11).bel (fun _ => ?_)
      clear hK K
      try simp only [Act.put, List.getElem_toArray, List.getElem_cons_succ, List.getElem_cons_zero, List.setIfInBounds_toArray, List.set_cons_zero, List.set_cons_succ, List.toList_toArray]
      exact wpAnyH_listed (by kernel_rfl) (H011.out _ q9 wv.heap.size h.alloc11)
    have H010 : Hid _ := H010'
    clear H010'
    have H001' : ∀ (wv : World) (q11 : Nat), RG wz wv G1 G2 none none none (some q11) → wpAnyH Try.prog .any ops Qm (fun wv => Below wz.heap.size wz wv) 13 #[true, false, true, true, false, true, false, false, false, false, false, false, false, true, false, false, false, false] ⟨#[.agg C1, .int .u64 lc, .agg C2, .int .u64 oc, .pointer (some ⟨a, 0, none⟩), undef, .pointer (some ⟨b, 0, none⟩), undef, .bool false, undef, undef, .pointer (some ⟨q11, 0, none⟩), undef, undef, undef, undef, undef, .agg C1, .agg D1, .agg C2, .agg D2, undef, .agg D1, undef, .int .u64 lc, .agg D2, undef, .int .u64 oc, undef, undef, undef, undef, undef, undef, undef, undef, undef, undef, undef, undef, undef, undef, undef, undef, undef, undef, undef, undef, undef, undef, undef, undef, undef], []⟩ wv := by
      intro wv q11 h
      subst hops hQm
      refine wpAnyH_ready (rs := [1, 12]) (by kernel_rfl) (by simp) ?_
      refine AllReadyH.cons rfl (fun K hK => ?_) ?_
      · rw [if_pos (by rfl)]
        go_simp
        refine (clone_any D1 G1 wv (hT.H1.seen.below h.bel (Nat.le_refl _))).mono ?_
        rintro e w' ⟨DA, rfl, hH, hb⟩
        have hd := h.clone3 hH hb
        refine hK.out _ _ hd.bel (fun _ => ?_)
        clear hK K
        try simp only [Act.put, List.getElem_toArray, List.getElem_cons_succ, List.getElem_cons_zero, List.setIfInBounds_toArray, List.set_cons_zero, List.set_cons_succ, List.toList_toArray]
        exact wpAnyH_listed (by kernel_rfl) (H101.out _ q11 _ _ DA hd)
      refine AllReadyH.cons rfl (fun K hK => ?_) AllReadyH.nil
      rw [if_pos (by rfl)]
      go_simp
      refine hK.out _ _ (h.alloc9).bel (fun _ => ?_)
      clear hK K
      try simp only [Act.put, List.getElem_toArray, List.getElem_cons_succ, List.getElem_cons_zero, List.setIfInBounds_toArray, List.set_cons_zero, List.set_cons_succ, List.toList_toArray]
      exact wpAnyH_listed (by kernel_rfl) (H011.out _ wv.heap.size q11 h.alloc9)
    have H001 : Hid _ := H001'
    clear H001'
    have H000' : ∀ (wv : World), RG wz wv G1 G2 none none none none → wpAnyH Try.prog .any ops Qm (fun wv => Below wz.heap.size wz wv) 14 #[true, false, true, true, false, true, false, false, false, false, false, false, false, false, false, false, false, false] ⟨#[.agg C1, .int .u64 lc, .agg C2, .int .u64 oc, .pointer (some ⟨a, 0, none⟩), undef, .pointer (some ⟨b, 0, none⟩), undef, .bool false, undef, undef, undef, undef, undef, undef, undef, undef, .agg C1, .agg D1, .agg C2, .agg D2, undef, .agg D1, undef, .int .u64 lc, .agg D2, undef, .int .u64 oc, undef, undef, undef, undef, undef, undef, undef, undef, undef, undef, undef, undef, undef, undef, undef, undef, undef, undef, undef, undef, undef, undef, undef, undef, undef], []⟩ wv := by
      intro wv h
      subst hops hQm
      refine wpAnyH_ready (rs := [1, 12, 13]) (by kernel_rfl) (by simp) ?_
      refine AllReadyH.cons rfl (fun K hK => ?_) ?_
      · rw [if_pos (by rfl)]
        go_simp
        refine (clone_any D1 G1 wv (hT.H1.seen.below h.bel (Nat.le_refl _))).mono ?_
        rintro e w' ⟨DA, rfl, hH, hb⟩
        have hd := h.clone3 hH hb
        refine hK.out _ _ hd.bel (fun _ => ?_)
        clear hK K
        try simp only [Act.put, List.getElem_toArray, List.getElem_cons_succ, List.getElem_cons_zero, List.setIfInBounds_toArray, List.set_cons_zero, List.set_cons_succ, List.toList_toArray]
        exact wpAnyH_listed (by kernel_rfl) (H100.out _ _ _ DA hd)
      refine AllReadyH.cons rfl (fun K hK => ?_) ?_
      · rw [if_pos (by rfl)]
        go_simp
        refine hK.out _ _ (h.alloc9).bel (fun _ => ?_)
        clear hK K
        try simp only [Act.put, List.getElem_toArray, List.getElem_cons_succ, List.getElem_cons_zero, List.setIfInBounds_toArray, List.set_cons_zero, List.set_cons_succ, List.toList_toArray]
        exact wpAnyH_listed (by kernel_rfl) (H010.out _ wv.heap.size h.alloc9)
      refine AllReadyH.cons rfl (fun K hK => ?_) AllReadyH.nil
      rw [if_pos (by rfl)]
      go_simp
      refine hK.out _ _ (h.alloc11).bel (fun _ => ?_)
      clear hK K
      try simp only [Act.put, List.getElem_toArray, List.getElem_cons_succ, List.getElem_cons_zero, List.setIfInBounds_toArray, List.set_cons_zero, List.set_cons_succ, List.toList_toArray]
      exact wpAnyH_listed (by kernel_rfl) (H001.out _ wv.heap.size h.alloc11)
    have H000 : Hid _ := H000'
    clear H000'
    subst hops hQm
    have hiX : (Try.prog.info? 35).map (·.size) = some D1.toList.length := by rw [Array.length_toList, hD1]; exact size35
    have hiY : (Try.prog.info? 35).map (·.size) = some D2.toList.length := by rw [Array.length_toList, hD2]; exact size35
    refine wpAnyH_take (i := 0) (v := .agg D1.toList.toArray) rfl (by kernel_rfl) (by kernel_rfl) (by kernel_rfl) (fun _ _ _ h => by cases h.1) (yieldsIf_load_mid (by rfl) 35 (.tmp 4) rfl a 0 rfl D1.toList _ (fun w hw j v hv => by rw [Nat.zero_add, cell_of_row _ _ _ _ _ _ (rd_below hw hT.A (lt_of_block hT.A))]; simpa using hv) Try.underlying35 rfl hiX) hS ?_
    try simp only [Act.put, List.getElem_toArray, List.getElem_cons_succ, List.getElem_cons_zero, List.setIfInBounds_toArray, List.set_cons_zero, List.set_cons_succ, List.toList_toArray]
    refine wpAnyH_take (i := 2) (v := .int .u64 lc) rfl (by kernel_rfl) (by kernel_rfl) (by kernel_rfl) (fun _ _ _ h => by cases h.1) (Or.inl ⟨by rfl, fun w _ => by go_simp⟩) hS ?_
    try simp only [Act.put, List.getElem_toArray, List.getElem_cons_succ, List.getElem_cons_zero, List.setIfInBounds_toArray, List.set_cons_zero, List.set_cons_succ, List.toList_toArray]
    refine wpAnyH_take (i := 3) (v := .agg D2.toList.toArray) rfl (by kernel_rfl) (by kernel_rfl) (by kernel_rfl) (fun _ _ _ h => by cases h.1) (yieldsIf_load_mid (by rfl) 35 (.tmp 6) rfl b 0 rfl D2.toList _ (fun w hw j v hv => by rw [Nat.zero_add, cell_of_row _ _ _ _ _ _ (rd_below hw hT.B (lt_of_block hT.B))]; simpa using hv) Try.underlying35 rfl hiY) hS ?_
    try simp only [Act.put, List.getElem_toArray, List.getElem_cons_succ, List.getElem_cons_zero, List.setIfInBounds_toArray, List.set_cons_zero, List.set_cons_succ, List.toList_toArray]
    refine wpAnyH_take (i := 5) (v := .int .u64 oc) rfl (by kernel_rfl) (by kernel_rfl) (by kernel_rfl) (fun _ _ _ h => by cases h.1) (Or.inl ⟨by rfl, fun w _ => by go_simp⟩) hS ?_
    try simp only [Act.put, List.getElem_toArray, List.getElem_cons_succ, List.getElem_cons_zero, List.setIfInBounds_toArray, List.set_cons_zero, List.set_cons_succ, List.toList_toArray]
    simp only [Array.toArray_toList]
    exact wpAnyH_listed (by kernel_rfl) (H000.out _ (RG.start hS))
  rintro e act wk ⟨rfl, q93, q113, DA3, DB3, DL3, rfl, hN⟩
  have hT4 := hT.below hN.bel
  obtain ⟨G3, hP3, hG3⟩ := hN.rows
  have HS3 : Hid (SeenR wk DL3 G3) := hP3.seen
  have HG3 : Hid (∀ r, r < 54 → G3 r = addRow (G1 r) (G2 r)) := hG3
  have HC3 : Hid (wk.heap[q93]? = some (.cells DL3 35 (0, 0))) := hN.blk
  have hDL3 := hP3.size
  clear hT hN hP3 hG3
  have HTT : Hid (Two w wk a b D1 D2 G1 G2 lo hi) := hT4
  have HF1 : Hid G1.fits := hf1
  have HF2 : Hid G2.fits := hf2
  clear hT4 hf1 hf2
  dsimp only
  go_wp2
  have hT := HTT.out
  have hf1 := HF1.out
  have hf2 := HF2.out
  refine Code.wp_mono (Q := (fun (e : Exit) (act : Act) (wv : World) => e = Exit.normal ∧ ∃ (q9 q11 : Nat) (DA DB DL : Array Value), act = ⟨#[.agg C1, .int .u64 lc, .agg C2, .int .u64 oc, .pointer (some ⟨a, 0, none⟩), undef, .pointer (some ⟨b, 0, none⟩), undef, .bool false, .pointer (some ⟨q93, 0, none⟩), .int .u64 (IntKind.u64.wrap (lc + oc)), .pointer (some ⟨q113, 0, none⟩), .int .u64 oc, .pointer (some ⟨q9, 0, none⟩), .int .u64 (IntKind.u64.wrap (oc + lc)), .pointer (some ⟨q11, 0, none⟩), .int .u64 lc, .agg C1, .agg D1, .agg C2, .agg D2, .tuple #[.agg DL3, .int .u64 (IntKind.u64.wrap (lc + oc)), .agg DB3, .int .u64 oc], .agg D1, .agg DA3, .int .u64 lc, .agg D2, .agg DB3, .int .u64 oc, .tuple #[.agg DL3, .int .u64 (IntKind.u64.wrap (lc + oc)), .agg DB3, .int .u64 oc], .agg DL3, .int .u64 (IntKind.u64.wrap (lc + oc)), .agg DB3, .int .u64 oc, .tuple #[.agg DL, .int .u64 (IntKind.u64.wrap (oc + lc)), .agg DB, .int .u64 lc], .agg D2, .agg DA, .int .u64 oc, .agg D1, .agg DB, .int .u64 lc, .tuple #[.agg DL, .int .u64 (IntKind.u64.wrap (oc + lc)), .agg DB, .int .u64 lc], .agg DL, .int .u64 (IntKind.u64.wrap (oc + lc)), .agg DB, .int .u64 lc, undef, undef, undef, undef, undef, undef, undef, undef], []⟩ ∧ DN wk wv G2 G1 DL q9)) ?_ (region_named fun ops hops => ?_)
  rotate_left
  · have hsz : ops.size = 18 := by subst hops; rfl
    simp only [Act.put]
    refine wp_region_held_drew (S := fun wv => Below wk.heap.size wk wv) (by kernel_rfl) ⟨rfl, rfl, rfl, Nat.le_refl _, fun _ _ => rfl⟩ (fun hS => ?_)
    rw [hsz]
    generalize hQm : (fun (e : Exit) (act : Act) (wv : World) => e = Exit.normal ∧ ∃ (q9 q11 : Nat) (DA DB DL : Array Value), act = ⟨#[.agg C1, .int .u64 lc, .agg C2, .int .u64 oc, .pointer (some ⟨a, 0, none⟩), undef, .pointer (some ⟨b, 0, none⟩), undef, .bool false, .pointer (some ⟨q93, 0, none⟩), .int .u64 (IntKind.u64.wrap (lc + oc)), .pointer (some ⟨q113, 0, none⟩), .int .u64 oc, .pointer (some ⟨q9, 0, none⟩), .int .u64 (IntKind.u64.wrap (oc + lc)), .pointer (some ⟨q11, 0, none⟩), .int .u64 lc, .agg C1, .agg D1, .agg C2, .agg D2, .tuple #[.agg DL3, .int .u64 (IntKind.u64.wrap (lc + oc)), .agg DB3, .int .u64 oc], .agg D1, .agg DA3, .int .u64 lc, .agg D2, .agg DB3, .int .u64 oc, .tuple #[.agg DL3, .int .u64 (IntKind.u64.wrap (lc + oc)), .agg DB3, .int .u64 oc], .agg DL3, .int .u64 (IntKind.u64.wrap (lc + oc)), .agg DB3, .int .u64 oc, .tuple #[.agg DL, .int .u64 (IntKind.u64.wrap (oc + lc)), .agg DB, .int .u64 lc], .agg D2, .agg DA, .int .u64 oc, .agg D1, .agg DB, .int .u64 lc, .tuple #[.agg DL, .int .u64 (IntKind.u64.wrap (oc + lc)), .agg DB, .int .u64 lc], .agg DL, .int .u64 (IntKind.u64.wrap (oc + lc)), .agg DB, .int .u64 lc, undef, undef, undef, undef, undef, undef, undef, undef], []⟩ ∧ DN wk wv G2 G1 DL q9) = Qm
    have H311' : ∀ (wv : World) (q9 : Nat) (q11 : Nat) (l u : Nat) (DA : Array Value) (l' u' : Nat) (DB : Array Value) (DL : Array Value), RD wk wv G2 G1 DL (some q9) (some q11) → DB.size = 54 → DB.all (·.oneCell') = true → wpAnyH Try.prog .any ops Qm (fun wv => Below wk.heap.size wk wv) 4 #[true, true, true, true, true, true, true, true, true, true, true, true, true, true, false, false, false, false] ⟨#[.agg C1, .int .u64 lc, .agg C2, .int .u64 oc, .pointer (some ⟨a, 0, none⟩), undef, .pointer (some ⟨b, 0, none⟩), undef, .bool false, .pointer (some ⟨q93, 0, none⟩), .int .u64 (IntKind.u64.wrap (lc + oc)), .pointer (some ⟨q113, 0, none⟩), .int .u64 oc, .pointer (some ⟨q9, 0, none⟩), undef, .pointer (some ⟨q11, 0, none⟩), undef, .agg C1, .agg D1, .agg C2, .agg D2, .tuple #[.agg DL3, .int .u64 (IntKind.u64.wrap (lc + oc)), .agg DB3, .int .u64 oc], .agg D1, .agg DA3, .int .u64 lc, .agg D2, .agg DB3, .int .u64 oc, .tuple #[.agg DL3, .int .u64 (IntKind.u64.wrap (lc + oc)), .agg DB3, .int .u64 oc], .agg DL3, .int .u64 (IntKind.u64.wrap (lc + oc)), .agg DB3, .int .u64 oc, .tuple #[.agg DL, .int .u64 (IntKind.u64.wrap (oc + lc)), .agg DB, .int .u64 lc], .agg D2, .agg DA, .int .u64 oc, .agg D1, .agg DB, .int .u64 lc, .tuple #[.agg DL, .int .u64 (IntKind.u64.wrap (oc + lc)), .agg DB, .int .u64 lc], .agg DL, .int .u64 (IntKind.u64.wrap (oc + lc)), .agg DB, .int .u64 lc, undef, undef, undef, undef, undef, undef, undef, undef], []⟩ wv := by
      intro wv q9 q11 l u DA l' u' DB DL h hB oB
      subst hops hQm
      obtain ⟨G', hP, hG⟩ := h.rows
      have hDL := hP.size
      have oDL := hP.oneCell
      refine wpAnyH_ready (rs := [14]) (by kernel_rfl) (by simp) ?_
      refine AllReadyH.cons rfl (fun K hK => ?_) AllReadyH.nil
      rw [if_pos (by rfl)]
      refine wp_store_row 35 (.tmp 13) (.tmp 41) rfl q9 DL rfl rfl 35 Z35 (h.f9 q9 rfl).2 (by rw [hDL]; exact size35) (by rw [Z35_size, hDL]) oDL ?_
      refine hK.out _ _ (Below.setRow' h.bel (h.f9 q9 rfl).1 _) (fun hS => ?_)
      clear hK K
      try simp only [Act.put, List.getElem_toArray, List.getElem_cons_succ, List.getElem_cons_zero, List.setIfInBounds_toArray, List.set_cons_zero, List.set_cons_succ, List.toList_toArray]
      refine wpAnyH_ready (rs := [15]) (by kernel_rfl) (by simp) ?_
      refine AllReadyH.cons rfl (fun K hK => ?_) AllReadyH.nil
      rw [if_pos (by rfl)]
      go_simp
      refine hK.out _ _ hS (fun _ => ?_)
      clear hK K
      try simp only [Act.put, List.getElem_toArray, List.getElem_cons_succ, List.getElem_cons_zero, List.setIfInBounds_toArray, List.set_cons_zero, List.set_cons_succ, List.toList_toArray]
      refine wpAnyH_ready (rs := [16]) (by kernel_rfl) (by simp) ?_
      refine AllReadyH.cons rfl (fun K hK => ?_) AllReadyH.nil
      rw [if_pos (by rfl)]
      refine wp_store_row 35 (.tmp 15) (.tmp 43) rfl q11 DB rfl rfl 35 Z35 h.second (by rw [hB]; exact size35) (by rw [Z35_size, hB]) oB ?_
      refine hK.out _ _ (Below.setRow' hS (h.f11 q11 rfl).1 _) (fun hS2 => ?_)
      clear hK K
      try simp only [Act.put, List.getElem_toArray, List.getElem_cons_succ, List.getElem_cons_zero, List.setIfInBounds_toArray, List.set_cons_zero, List.set_cons_succ, List.toList_toArray]
      refine wpAnyH_ready (rs := [17]) (by kernel_rfl) (by simp) ?_
      refine AllReadyH.cons rfl (fun K hK => ?_) AllReadyH.nil
      rw [if_pos (by rfl)]
      go_simp
      refine hK.out _ _ hS2 (fun _ => ?_)
      clear hK K
      try simp only [Act.put, List.getElem_toArray, List.getElem_cons_succ, List.getElem_cons_zero, List.setIfInBounds_toArray, List.set_cons_zero, List.set_cons_succ, List.toList_toArray]
      refine wpAnyH_done (by kernel_rfl) ?_ _
      exact ⟨rfl, q9, q11, DA, DB, DL, rfl, h.stored⟩
    have H311 : Hid _ := H311'
    clear H311'
    have H310' : ∀ (wv : World) (q9 : Nat) (l u : Nat) (DA : Array Value) (l' u' : Nat) (DB : Array Value) (DL : Array Value), RD wk wv G2 G1 DL (some q9) none → DB.size = 54 → DB.all (·.oneCell') = true → wpAnyH Try.prog .any ops Qm (fun wv => Below wk.heap.size wk wv) 5 #[true, true, true, true, true, true, true, true, true, true, true, true, true, false, false, false, false, false] ⟨#[.agg C1, .int .u64 lc, .agg C2, .int .u64 oc, .pointer (some ⟨a, 0, none⟩), undef, .pointer (some ⟨b, 0, none⟩), undef, .bool false, .pointer (some ⟨q93, 0, none⟩), .int .u64 (IntKind.u64.wrap (lc + oc)), .pointer (some ⟨q113, 0, none⟩), .int .u64 oc, .pointer (some ⟨q9, 0, none⟩), undef, undef, undef, .agg C1, .agg D1, .agg C2, .agg D2, .tuple #[.agg DL3, .int .u64 (IntKind.u64.wrap (lc + oc)), .agg DB3, .int .u64 oc], .agg D1, .agg DA3, .int .u64 lc, .agg D2, .agg DB3, .int .u64 oc, .tuple #[.agg DL3, .int .u64 (IntKind.u64.wrap (lc + oc)), .agg DB3, .int .u64 oc], .agg DL3, .int .u64 (IntKind.u64.wrap (lc + oc)), .agg DB3, .int .u64 oc, .tuple #[.agg DL, .int .u64 (IntKind.u64.wrap (oc + lc)), .agg DB, .int .u64 lc], .agg D2, .agg DA, .int .u64 oc, .agg D1, .agg DB, .int .u64 lc, .tuple #[.agg DL, .int .u64 (IntKind.u64.wrap (oc + lc)), .agg DB, .int .u64 lc], .agg DL, .int .u64 (IntKind.u64.wrap (oc + lc)), .agg DB, .int .u64 lc, undef, undef, undef, undef, undef, undef, undef, undef], []⟩ wv := by
      intro wv q9 l u DA l' u' DB DL h hB oB
      subst hops hQm
      refine wpAnyH_ready (rs := [13]) (by kernel_rfl) (by simp) ?_
      refine AllReadyH.cons rfl (fun K hK => ?_) AllReadyH.nil
      rw [if_pos (by rfl)]
      go_simp
      refine hK.out _ _ (h.alloc11).bel (fun _ => ?_)
      clear hK K
      try simp only [Act.put, List.getElem_toArray, List.getElem_cons_succ, List.getElem_cons_zero, List.setIfInBounds_toArray, List.set_cons_zero, List.set_cons_succ, List.toList_toArray]
      exact wpAnyH_listed (by kernel_rfl) (H311.out _ q9 wv.heap.size l u DA l' u' DB DL h.alloc11 hB oB)
    have H310 : Hid _ := H310'
    clear H310'
    have H301' : ∀ (wv : World) (q11 : Nat) (l u : Nat) (DA : Array Value) (l' u' : Nat) (DB : Array Value) (DL : Array Value), RD wk wv G2 G1 DL none (some q11) → DB.size = 54 → DB.all (·.oneCell') = true → wpAnyH Try.prog .any ops Qm (fun wv => Below wk.heap.size wk wv) 5 #[true, true, true, true, true, true, true, true, true, true, true, true, false, true, false, false, false, false] ⟨#[.agg C1, .int .u64 lc, .agg C2, .int .u64 oc, .pointer (some ⟨a, 0, none⟩), undef, .pointer (some ⟨b, 0, none⟩), undef, .bool false, .pointer (some ⟨q93, 0, none⟩), .int .u64 (IntKind.u64.wrap (lc + oc)), .pointer (some ⟨q113, 0, none⟩), .int .u64 oc, undef, undef, .pointer (some ⟨q11, 0, none⟩), undef, .agg C1, .agg D1, .agg C2, .agg D2, .tuple #[.agg DL3, .int .u64 (IntKind.u64.wrap (lc + oc)), .agg DB3, .int .u64 oc], .agg D1, .agg DA3, .int .u64 lc, .agg D2, .agg DB3, .int .u64 oc, .tuple #[.agg DL3, .int .u64 (IntKind.u64.wrap (lc + oc)), .agg DB3, .int .u64 oc], .agg DL3, .int .u64 (IntKind.u64.wrap (lc + oc)), .agg DB3, .int .u64 oc, .tuple #[.agg DL, .int .u64 (IntKind.u64.wrap (oc + lc)), .agg DB, .int .u64 lc], .agg D2, .agg DA, .int .u64 oc, .agg D1, .agg DB, .int .u64 lc, .tuple #[.agg DL, .int .u64 (IntKind.u64.wrap (oc + lc)), .agg DB, .int .u64 lc], .agg DL, .int .u64 (IntKind.u64.wrap (oc + lc)), .agg DB, .int .u64 lc, undef, undef, undef, undef, undef, undef, undef, undef], []⟩ wv := by
      intro wv q11 l u DA l' u' DB DL h hB oB
      subst hops hQm
      refine wpAnyH_ready (rs := [12]) (by kernel_rfl) (by simp) ?_
      refine AllReadyH.cons rfl (fun K hK => ?_) AllReadyH.nil
      rw [if_pos (by rfl)]
      go_simp
      refine hK.out _ _ (h.alloc9).bel (fun _ => ?_)
      clear hK K
      try simp only [Act.put, List.getElem_toArray, List.getElem_cons_succ, List.getElem_cons_zero, List.setIfInBounds_toArray, List.set_cons_zero, List.set_cons_succ, List.toList_toArray]
      exact wpAnyH_listed (by kernel_rfl) (H311.out _ wv.heap.size q11 l u DA l' u' DB DL h.alloc9 hB oB)
    have H301 : Hid _ := H301'
    clear H301'
    have H300' : ∀ (wv : World) (l u : Nat) (DA : Array Value) (l' u' : Nat) (DB : Array Value) (DL : Array Value), RD wk wv G2 G1 DL none none → DB.size = 54 → DB.all (·.oneCell') = true → wpAnyH Try.prog .any ops Qm (fun wv => Below wk.heap.size wk wv) 6 #[true, true, true, true, true, true, true, true, true, true, true, true, false, false, false, false, false, false] ⟨#[.agg C1, .int .u64 lc, .agg C2, .int .u64 oc, .pointer (some ⟨a, 0, none⟩), undef, .pointer (some ⟨b, 0, none⟩), undef, .bool false, .pointer (some ⟨q93, 0, none⟩), .int .u64 (IntKind.u64.wrap (lc + oc)), .pointer (some ⟨q113, 0, none⟩), .int .u64 oc, undef, undef, undef, undef, .agg C1, .agg D1, .agg C2, .agg D2, .tuple #[.agg DL3, .int .u64 (IntKind.u64.wrap (lc + oc)), .agg DB3, .int .u64 oc], .agg D1, .agg DA3, .int .u64 lc, .agg D2, .agg DB3, .int .u64 oc, .tuple #[.agg DL3, .int .u64 (IntKind.u64.wrap (lc + oc)), .agg DB3, .int .u64 oc], .agg DL3, .int .u64 (IntKind.u64.wrap (lc + oc)), .agg DB3, .int .u64 oc, .tuple #[.agg DL, .int .u64 (IntKind.u64.wrap (oc + lc)), .agg DB, .int .u64 lc], .agg D2, .agg DA, .int .u64 oc, .agg D1, .agg DB, .int .u64 lc, .tuple #[.agg DL, .int .u64 (IntKind.u64.wrap (oc + lc)), .agg DB, .int .u64 lc], .agg DL, .int .u64 (IntKind.u64.wrap (oc + lc)), .agg DB, .int .u64 lc, undef, undef, undef, undef, undef, undef, undef, undef], []⟩ wv := by
      intro wv l u DA l' u' DB DL h hB oB
      subst hops hQm
      refine wpAnyH_ready (rs := [12, 13]) (by kernel_rfl) (by simp) ?_
      refine AllReadyH.cons rfl (fun K hK => ?_) ?_
      · rw [if_pos (by rfl)]
        go_simp
        refine hK.out _ _ (h.alloc9).bel (fun _ => ?_)
        clear hK K
        try simp only [Act.put, List.getElem_toArray, List.getElem_cons_succ, List.getElem_cons_zero, List.setIfInBounds_toArray, List.set_cons_zero, List.set_cons_succ, List.toList_toArray]
        exact wpAnyH_listed (by kernel_rfl) (H310.out _ wv.heap.size l u DA l' u' DB DL h.alloc9 hB oB)
      refine AllReadyH.cons rfl (fun K hK => ?_) AllReadyH.nil
      rw [if_pos (by rfl)]
      go_simp
      refine hK.out _ _ (h.alloc11).bel (fun _ => ?_)
      clear hK K
      try simp only [Act.put, List.getElem_toArray, List.getElem_cons_succ, List.getElem_cons_zero, List.setIfInBounds_toArray, List.set_cons_zero, List.set_cons_succ, List.toList_toArray]
      exact wpAnyH_listed (by kernel_rfl) (H301.out _ wv.heap.size l u DA l' u' DB DL h.alloc11 hB oB)
    have H300 : Hid _ := H300'
    clear H300'
    have H211' : ∀ (wv : World) (q9 : Nat) (q11 : Nat) (l u : Nat) (DA : Array Value) (l' u' : Nat) (DB : Array Value), RG wk wv G2 G1 (some (l, u, DA)) (some (l', u', DB)) (some q9) (some q11) → wpAnyH Try.prog .any ops Qm (fun wv => Below wk.heap.size wk wv) 10 #[true, true, true, true, true, true, false, false, false, false, false, false, true, true, false, false, false, false] ⟨#[.agg C1, .int .u64 lc, .agg C2, .int .u64 oc, .pointer (some ⟨a, 0, none⟩), undef, .pointer (some ⟨b, 0, none⟩), undef, .bool false, .pointer (some ⟨q93, 0, none⟩), .int .u64 (IntKind.u64.wrap (lc + oc)), .pointer (some ⟨q113, 0, none⟩), .int .u64 oc, .pointer (some ⟨q9, 0, none⟩), undef, .pointer (some ⟨q11, 0, none⟩), undef, .agg C1, .agg D1, .agg C2, .agg D2, .tuple #[.agg DL3, .int .u64 (IntKind.u64.wrap (lc + oc)), .agg DB3, .int .u64 oc], .agg D1, .agg DA3, .int .u64 lc, .agg D2, .agg DB3, .int .u64 oc, .tuple #[.agg DL3, .int .u64 (IntKind.u64.wrap (lc + oc)), .agg DB3, .int .u64 oc], .agg DL3, .int .u64 (IntKind.u64.wrap (lc + oc)), .agg DB3, .int .u64 oc, undef, .agg D2, .agg DA, .int .u64 oc, .agg D1, .agg DB, .int .u64 lc, undef, undef, undef, undef, undef, undef, undef, undef, undef, undef, undef, undef, undef], []⟩ wv := by
      intro wv q9 q11 l u DA l' u' DB h
      subst hops hQm
      refine wpAnyH_ready (rs := [6]) (by kernel_rfl) (by simp) ?_
      refine AllReadyH.cons rfl (fun K hK => ?_) AllReadyH.nil
      rw [if_pos (by rfl)]
      go_simp
      obtain ⟨a1, a2, a3, a4, a5⟩ := h.h3 l u DA rfl
      obtain ⟨b1, b2, b3⟩ := h.h4 l' u' DB rfl
      refine (zzadd_any wv l u l' u' DA oc DB lc G2 G1 a3 b3 (.inr (h.ap l u DA l' u' DB rfl rfl)) a2 b2 hf1).mono ?_
      rintro e w' ⟨DL, G', rfl, hP, hG, hO⟩
      have hd := h.add hP hG hO
      refine hK.out _ _ hd.bel (fun hS => ?_)
      clear hK K
      try simp only [Act.put, List.getElem_toArray, List.getElem_cons_succ, List.getElem_cons_zero, List.setIfInBounds_toArray, List.set_cons_zero, List.set_cons_succ, List.toList_toArray]
      refine wpAnyH_take (i := 7) (v := .tuple #[.agg DL, .int .u64 (IntKind.u64.wrap (oc + lc)), .agg DB, .int .u64 lc]) rfl (by kernel_rfl) (by kernel_rfl) (by kernel_rfl) (fun _ _ _ h => by cases h.1) (Or.inl ⟨by rfl, fun w _ => by go_simp⟩) hS ?_
      try simp only [Act.put, List.getElem_toArray, List.getElem_cons_succ, List.getElem_cons_zero, List.setIfInBounds_toArray, List.set_cons_zero, List.set_cons_succ, List.toList_toArray]
      refine wpAnyH_take (i := 8) (v := .agg DL) rfl (by kernel_rfl) (by kernel_rfl) (by kernel_rfl) (fun _ _ _ h => by cases h.1) (Or.inl ⟨by rfl, fun w _ => by go_simp⟩) hS ?_
      try simp only [Act.put, List.getElem_toArray, List.getElem_cons_succ, List.getElem_cons_zero, List.setIfInBounds_toArray, List.set_cons_zero, List.set_cons_succ, List.toList_toArray]
      refine wpAnyH_take (i := 9) (v := .int .u64 (IntKind.u64.wrap (oc + lc))) rfl (by kernel_rfl) (by kernel_rfl) (by kernel_rfl) (fun _ _ _ h => by cases h.1) (Or.inl ⟨by rfl, fun w _ => by go_simp⟩) hS ?_
      try simp only [Act.put, List.getElem_toArray, List.getElem_cons_succ, List.getElem_cons_zero, List.setIfInBounds_toArray, List.set_cons_zero, List.set_cons_succ, List.toList_toArray]
      refine wpAnyH_take (i := 10) (v := .agg DB) rfl (by kernel_rfl) (by kernel_rfl) (by kernel_rfl) (fun _ _ _ h => by cases h.1) (Or.inl ⟨by rfl, fun w _ => by go_simp⟩) hS ?_
      try simp only [Act.put, List.getElem_toArray, List.getElem_cons_succ, List.getElem_cons_zero, List.setIfInBounds_toArray, List.set_cons_zero, List.set_cons_succ, List.toList_toArray]
      refine wpAnyH_take (i := 11) (v := .int .u64 lc) rfl (by kernel_rfl) (by kernel_rfl) (by kernel_rfl) (fun _ _ _ h => by cases h.1) (Or.inl ⟨by rfl, fun w _ => by go_simp⟩) hS ?_
      try simp only [Act.put, List.getElem_toArray, List.getElem_cons_succ, List.getElem_cons_zero, List.setIfInBounds_toArray, List.set_cons_zero, List.set_cons_succ, List.toList_toArray]
      exact wpAnyH_listed (by kernel_rfl) (H311.out _ q9 q11 l u DA l' u' DB DL hd b3.size b3.oneCell)
    have H211 : Hid _ := H211'
    clear H211'
    have H210' : ∀ (wv : World) (q9 : Nat) (l u : Nat) (DA : Array Value) (l' u' : Nat) (DB : Array Value), RG wk wv G2 G1 (some (l, u, DA)) (some (l', u', DB)) (some q9) none → wpAnyH Try.prog .any ops Qm (fun wv => Below wk.heap.size wk wv) 11 #[true, true, true, true, true, true, false, false, false, false, false, false, true, false, false, false, false, false] ⟨#[.agg C1, .int .u64 lc, .agg C2, .int .u64 oc, .pointer (some ⟨a, 0, none⟩), undef, .pointer (some ⟨b, 0, none⟩), undef, .bool false, .pointer (some ⟨q93, 0, none⟩), .int .u64 (IntKind.u64.wrap (lc + oc)), .pointer (some ⟨q113, 0, none⟩), .int .u64 oc, .pointer (some ⟨q9, 0, none⟩), undef, undef, undef, .agg C1, .agg D1, .agg C2, .agg D2, .tuple #[.agg DL3, .int .u64 (IntKind.u64.wrap (lc + oc)), .agg DB3, .int .u64 oc], .agg D1, .agg DA3, .int .u64 lc, .agg D2, .agg DB3, .int .u64 oc, .tuple #[.agg DL3, .int .u64 (IntKind.u64.wrap (lc + oc)), .agg DB3, .int .u64 oc], .agg DL3, .int .u64 (IntKind.u64.wrap (lc + oc)), .agg DB3, .int .u64 oc, undef, .agg D2, .agg DA, .int .u64 oc, .agg D1, .agg DB, .int .u64 lc, undef, undef, undef, undef, undef, undef, undef, undef, undef, undef, undef, undef, undef], []⟩ wv := by
      intro wv q9 l u DA l' u' DB h
      subst hops hQm
      refine wpAnyH_ready (rs := [6, 13]) (by kernel_rfl) (by simp) ?_
      refine AllReadyH.cons rfl (fun K hK => ?_) ?_
      · rw [if_pos (by rfl)]
        go_simp
        obtain ⟨a1, a2, a3, a4, a5⟩ := h.h3 l u DA rfl
        obtain ⟨b1, b2, b3⟩ := h.h4 l' u' DB rfl
        refine (zzadd_any wv l u l' u' DA oc DB lc G2 G1 a3 b3 (.inr (h.ap l u DA l' u' DB rfl rfl)) a2 b2 hf1).mono ?_
        rintro e w' ⟨DL, G', rfl, hP, hG, hO⟩
        have hd := h.add hP hG hO
        refine hK.out _ _ hd.bel (fun hS => ?_)
        clear hK K
        try simp only [Act.put, List.getElem_toArray, List.getElem_cons_succ, List.getElem_cons_zero, List.setIfInBounds_toArray, List.set_cons_zero, List.set_cons_succ, List.toList_toArray]
        refine wpAnyH_take (i := 7) (v := .tuple #[.agg DL, .int .u64 (IntKind.u64.wrap (oc + lc)), .agg DB, .int .u64 lc]) rfl (by kernel_rfl) (by kernel_rfl) (by kernel_rfl) (fun _ _ _ h => by cases h.1) (Or.inl ⟨by rfl, fun w _ => by go_simp⟩) hS ?_
        try simp only [Act.put, List.getElem_toArray, List.getElem_cons_succ, List.getElem_cons_zero, List.setIfInBounds_toArray, List.set_cons_zero, List.set_cons_succ, List.toList_toArray]
        refine wpAnyH_take (i := 8) (v := .agg DL) rfl (by kernel_rfl) (by kernel_rfl) (by kernel_rfl) (fun _ _ _ h => by cases h.1) (Or.inl ⟨by rfl, fun w _ => by go_simp⟩) hS ?_
        try simp only [Act.put, List.getElem_toArray, List.getElem_cons_succ, List.getElem_cons_zero, List.setIfInBounds_toArray, List.set_cons_zero, List.set_cons_succ, List.toList_toArray]
        refine wpAnyH_take (i := 9) (v := .int .u64 (IntKind.u64.wrap (oc + lc))) rfl (by kernel_rfl) (by kernel_rfl) (by kernel_rfl) (fun _ _ _ h => by cases h.1) (Or.inl ⟨by rfl, fun w _ => by go_simp⟩) hS ?_
        try simp only [Act.put, List.getElem_toArray, List.getElem_cons_succ, List.getElem_cons_zero, List.setIfInBounds_toArray, List.set_cons_zero, List.set_cons_succ, List.toList_toArray]
        refine wpAnyH_take (i := 10) (v := .agg DB) rfl (by kernel_rfl) (by kernel_rfl) (by kernel_rfl) (fun _ _ _ h => by cases h.1) (Or.inl ⟨by rfl, fun w _ => by go_simp⟩) hS ?_
        try simp only [Act.put, List.getElem_toArray, List.getElem_cons_succ, List.getElem_cons_zero, List.setIfInBounds_toArray, List.set_cons_zero, List.set_cons_succ, List.toList_toArray]
        refine wpAnyH_take (i := 11) (v := .int .u64 lc) rfl (by kernel_rfl) (by kernel_rfl) (by kernel_rfl) (fun _ _ _ h => by cases h.1) (Or.inl ⟨by rfl, fun w _ => by go_simp⟩) hS ?_
        try simp only [Act.put, List.getElem_toArray, List.getElem_cons_succ, List.getElem_cons_zero, List.setIfInBounds_toArray, List.set_cons_zero, List.set_cons_succ, List.toList_toArray]
        exact wpAnyH_listed (by kernel_rfl) (H310.out _ q9 l u DA l' u' DB DL hd b3.size b3.oneCell)
      refine AllReadyH.cons rfl (fun K hK => ?_) AllReadyH.nil
      rw [if_pos (by rfl)]
      go_simp
      refine hK.out _ _ (h.alloc11).bel (fun _ => ?_)
      clear hK K
      try simp only [Act.put, List.getElem_toArray, List.getElem_cons_succ, List.getElem_cons_zero, List.setIfInBounds_toArray, List.set_cons_zero, List.set_cons_succ, List.toList_toArray]
      exact wpAnyH_listed (by kernel_rfl) (H211.out _ q9 wv.heap.size l u DA l' u' DB h.alloc11)
    have H210 : Hid _ := H210'
    clear H210'
    have H201' : ∀ (wv : World) (q11 : Nat) (l u : Nat) (DA : Array Value) (l' u' : Nat) (DB : Array Value), RG wk wv G2 G1 (some (l, u, DA)) (some (l', u', DB)) none (some q11) → wpAnyH Try.prog .any ops Qm (fun wv => Below wk.heap.size wk wv) 11 #[true, true, true, true, true, true, false, false, false, false, false, false, false, true, false, false, false, false] ⟨#[.agg C1, .int .u64 lc, .agg C2, .int .u64 oc, .pointer (some ⟨a, 0, none⟩), undef, .pointer (some ⟨b, 0, none⟩), undef, .bool false, .pointer (some ⟨q93, 0, none⟩), .int .u64 (IntKind.u64.wrap (lc + oc)), .pointer (some ⟨q113, 0, none⟩), .int .u64 oc, undef, undef, .pointer (some ⟨q11, 0, none⟩), undef, .agg C1, .agg D1, .agg C2, .agg D2, .tuple #[.agg DL3, .int .u64 (IntKind.u64.wrap (lc + oc)), .agg DB3, .int .u64 oc], .agg D1, .agg DA3, .int .u64 lc, .agg D2, .agg DB3, .int .u64 oc, .tuple #[.agg DL3, .int .u64 (IntKind.u64.wrap (lc + oc)), .agg DB3, .int .u64 oc], .agg DL3, .int .u64 (IntKind.u64.wrap (lc + oc)), .agg DB3, .int .u64 oc, undef, .agg D2, .agg DA, .int .u64 oc, .agg D1, .agg DB, .int .u64 lc, undef, undef, undef, undef, undef, undef, undef, undef, undef, undef, undef, undef, undef], []⟩ wv := by
      intro wv q11 l u DA l' u' DB h
      subst hops hQm
      refine wpAnyH_ready (rs := [6, 12]) (by kernel_rfl) (by simp) ?_
      refine AllReadyH.cons rfl (fun K hK => ?_) ?_
      · rw [if_pos (by rfl)]
        go_simp
        obtain ⟨a1, a2, a3, a4, a5⟩ := h.h3 l u DA rfl
        obtain ⟨b1, b2, b3⟩ := h.h4 l' u' DB rfl
        refine (zzadd_any wv l u l' u' DA oc DB lc G2 G1 a3 b3 (.inr (h.ap l u DA l' u' DB rfl rfl)) a2 b2 hf1).mono ?_
        rintro e w' ⟨DL, G', rfl, hP, hG, hO⟩
        have hd := h.add hP hG hO
        refine hK.out _ _ hd.bel (fun hS => ?_)
        clear hK K
        try simp only [Act.put, List.getElem_toArray, List.getElem_cons_succ, List.getElem_cons_zero, List.setIfInBounds_toArray, List.set_cons_zero, List.set_cons_succ, List.toList_toArray]
        refine wpAnyH_take (i := 7) (v := .tuple #[.agg DL, .int .u64 (IntKind.u64.wrap (oc + lc)), .agg DB, .int .u64 lc]) rfl (by kernel_rfl) (by kernel_rfl) (by kernel_rfl) (fun _ _ _ h => by cases h.1) (Or.inl ⟨by rfl, fun w _ => by go_simp⟩) hS ?_
        try simp only [Act.put, List.getElem_toArray, List.getElem_cons_succ, List.getElem_cons_zero, List.setIfInBounds_toArray, List.set_cons_zero, List.set_cons_succ, List.toList_toArray]
        refine wpAnyH_take (i := 8) (v := .agg DL) rfl (by kernel_rfl) (by kernel_rfl) (by kernel_rfl) (fun _ _ _ h => by cases h.1) (Or.inl ⟨by rfl, fun w _ => by go_simp⟩) hS ?_
        try simp only [Act.put, List.getElem_toArray, List.getElem_cons_succ, List.getElem_cons_zero, List.setIfInBounds_toArray, List.set_cons_zero, List.set_cons_succ, List.toList_toArray]
        refine wpAnyH_take (i := 9) (v := .int .u64 (IntKind.u64.wrap (oc + lc))) rfl (by kernel_rfl) (by kernel_rfl) (by kernel_rfl) (fun _ _ _ h => by cases h.1) (Or.inl ⟨by rfl, fun w _ => by go_simp⟩) hS ?_
        try simp only [Act.put, List.getElem_toArray, List.getElem_cons_succ, List.getElem_cons_zero, List.setIfInBounds_toArray, List.set_cons_zero, List.set_cons_succ, List.toList_toArray]
        refine wpAnyH_take (i := 10) (v := .agg DB) rfl (by kernel_rfl) (by kernel_rfl) (by kernel_rfl) (fun _ _ _ h => by cases h.1) (Or.inl ⟨by rfl, fun w _ => by go_simp⟩) hS ?_
        try simp only [Act.put, List.getElem_toArray, List.getElem_cons_succ, List.getElem_cons_zero, List.setIfInBounds_toArray, List.set_cons_zero, List.set_cons_succ, List.toList_toArray]
        refine wpAnyH_take (i := 11) (v := .int .u64 lc) rfl (by kernel_rfl) (by kernel_rfl) (by kernel_rfl) (fun _ _ _ h => by cases h.1) (Or.inl ⟨by rfl, fun w _ => by go_simp⟩) hS ?_
        try simp only [Act.put, List.getElem_toArray, List.getElem_cons_succ, List.getElem_cons_zero, List.setIfInBounds_toArray, List.set_cons_zero, List.set_cons_succ, List.toList_toArray]
        exact wpAnyH_listed (by kernel_rfl) (H301.out _ q11 l u DA l' u' DB DL hd b3.size b3.oneCell)
      refine AllReadyH.cons rfl (fun K hK => ?_) AllReadyH.nil
      rw [if_pos (by rfl)]
      go_simp
      refine hK.out _ _ (h.alloc9).bel (fun _ => ?_)
      clear hK K
      try simp only [Act.put, List.getElem_toArray, List.getElem_cons_succ, List.getElem_cons_zero, List.setIfInBounds_toArray, List.set_cons_zero, List.set_cons_succ, List.toList_toArray]
      exact wpAnyH_listed (by kernel_rfl) (H211.out _ wv.heap.size q11 l u DA l' u' DB h.alloc9)
    have H201 : Hid _ := H201'
    clear H201'
    have H200' : ∀ (wv : World) (l u : Nat) (DA : Array Value) (l' u' : Nat) (DB : Array Value), RG wk wv G2 G1 (some (l, u, DA)) (some (l', u', DB)) none none → wpAnyH Try.prog .any ops Qm (fun wv => Below wk.heap.size wk wv) 12 #[true, true, true, true, true, true, false, false, false, false, false, false, false, false, false, false, false, false] ⟨#[.agg C1, .int .u64 lc, .agg C2, .int .u64 oc, .pointer (some ⟨a, 0, none⟩), undef, .pointer (some ⟨b, 0, none⟩), undef, .bool false, .pointer (some ⟨q93, 0, none⟩), .int .u64 (IntKind.u64.wrap (lc + oc)), .pointer (some ⟨q113, 0, none⟩), .int .u64 oc, undef, undef, undef, undef, .agg C1, .agg D1, .agg C2, .agg D2, .tuple #[.agg DL3, .int .u64 (IntKind.u64.wrap (lc + oc)), .agg DB3, .int .u64 oc], .agg D1, .agg DA3, .int .u64 lc, .agg D2, .agg DB3, .int .u64 oc, .tuple #[.agg DL3, .int .u64 (IntKind.u64.wrap (lc + oc)), .agg DB3, .int .u64 oc], .agg DL3, .int .u64 (IntKind.u64.wrap (lc + oc)), .agg DB3, .int .u64 oc, undef, .agg D2, .agg DA, .int .u64 oc, .agg D1, .agg DB, .int .u64 lc, undef, undef, undef, undef, undef, undef, undef, undef, undef, undef, undef, undef, undef], []⟩ wv := by
      intro wv l u DA l' u' DB h
      subst hops hQm
      refine wpAnyH_ready (rs := [6, 12, 13]) (by kernel_rfl) (by simp) ?_
      refine AllReadyH.cons rfl (fun K hK => ?_) ?_
      · rw [if_pos (by rfl)]
        go_simp
        obtain ⟨a1, a2, a3, a4, a5⟩ := h.h3 l u DA rfl
        obtain ⟨b1, b2, b3⟩ := h.h4 l' u' DB rfl
        refine (zzadd_any wv l u l' u' DA oc DB lc G2 G1 a3 b3 (.inr (h.ap l u DA l' u' DB rfl rfl)) a2 b2 hf1).mono ?_
        rintro e w' ⟨DL, G', rfl, hP, hG, hO⟩
        have hd := h.add hP hG hO
        refine hK.out _ _ hd.bel (fun hS => ?_)
        clear hK K
        try simp only [Act.put, List.getElem_toArray, List.getElem_cons_succ, List.getElem_cons_zero, List.setIfInBounds_toArray, List.set_cons_zero, List.set_cons_succ, List.toList_toArray]
        refine wpAnyH_take (i := 7) (v := .tuple #[.agg DL, .int .u64 (IntKind.u64.wrap (oc + lc)), .agg DB, .int .u64 lc]) rfl (by kernel_rfl) (by kernel_rfl) (by kernel_rfl) (fun _ _ _ h => by cases h.1) (Or.inl ⟨by rfl, fun w _ => by go_simp⟩) hS ?_
        try simp only [Act.put, List.getElem_toArray, List.getElem_cons_succ, List.getElem_cons_zero, List.setIfInBounds_toArray, List.set_cons_zero, List.set_cons_succ, List.toList_toArray]
        refine wpAnyH_take (i := 8) (v := .agg DL) rfl (by kernel_rfl) (by kernel_rfl) (by kernel_rfl) (fun _ _ _ h => by cases h.1) (Or.inl ⟨by rfl, fun w _ => by go_simp⟩) hS ?_
        try simp only [Act.put, List.getElem_toArray, List.getElem_cons_succ, List.getElem_cons_zero, List.setIfInBounds_toArray, List.set_cons_zero, List.set_cons_succ, List.toList_toArray]
        refine wpAnyH_take (i := 9) (v := .int .u64 (IntKind.u64.wrap (oc + lc))) rfl (by kernel_rfl) (by kernel_rfl) (by kernel_rfl) (fun _ _ _ h => by cases h.1) (Or.inl ⟨by rfl, fun w _ => by go_simp⟩) hS ?_
        try simp only [Act.put, List.getElem_toArray, List.getElem_cons_succ, List.getElem_cons_zero, List.setIfInBounds_toArray, List.set_cons_zero, List.set_cons_succ, List.toList_toArray]
        refine wpAnyH_take (i := 10) (v := .agg DB) rfl (by kernel_rfl) (by kernel_rfl) (by kernel_rfl) (fun _ _ _ h => by cases h.1) (Or.inl ⟨by rfl, fun w _ => by go_simp⟩) hS ?_
        try simp only [Act.put, List.getElem_toArray, List.getElem_cons_succ, List.getElem_cons_zero, List.setIfInBounds_toArray, List.set_cons_zero, List.set_cons_succ, List.toList_toArray]
        refine wpAnyH_take (i := 11) (v := .int .u64 lc) rfl (by kernel_rfl) (by kernel_rfl) (by kernel_rfl) (fun _ _ _ h => by cases h.1) (Or.inl ⟨by rfl, fun w _ => by go_simp⟩) hS ?_
        try simp only [Act.put, List.getElem_toArray, List.getElem_cons_succ, List.getElem_cons_zero, List.setIfInBounds_toArray, List.set_cons_zero, List.set_cons_succ, List.toList_toArray]
        exact wpAnyH_listed (by kernel_rfl) (H300.out _ l u DA l' u' DB DL hd b3.size b3.oneCell)
      refine AllReadyH.cons rfl (fun K hK => ?_) ?_
      · rw [if_pos (by rfl)]
        go_simp
        refine hK.out _ _ (h.alloc9).bel (fun _ => ?_)
        clear hK K
        try simp only [Act.put, List.getElem_toArray, List.getElem_cons_succ, List.getElem_cons_zero, List.setIfInBounds_toArray, List.set_cons_zero, List.set_cons_succ, List.toList_toArray]
        exact wpAnyH_listed (by kernel_rfl) (H210.out _ wv.heap.size l u DA l' u' DB h.alloc9)
      refine AllReadyH.cons rfl (fun K hK => ?_) AllReadyH.nil
      rw [if_pos (by rfl)]
      go_simp
      refine hK.out _ _ (h.alloc11).bel (fun _ => ?_)
      clear hK K
      try simp only [Act.put, List.getElem_toArray, List.getElem_cons_succ, List.getElem_cons_zero, List.setIfInBounds_toArray, List.set_cons_zero, List.set_cons_succ, List.toList_toArray]
      exact wpAnyH_listed (by kernel_rfl) (H201.out _ wv.heap.size l u DA l' u' DB h.alloc11)
    have H200 : Hid _ := H200'
    clear H200'
    have H111' : ∀ (wv : World) (q9 : Nat) (q11 : Nat) (l u : Nat) (DA : Array Value), RG wk wv G2 G1 (some (l, u, DA)) none (some q9) (some q11) → wpAnyH Try.prog .any ops Qm (fun wv => Below wk.heap.size wk wv) 11 #[true, true, true, true, false, true, false, false, false, false, false, false, true, true, false, false, false, false] ⟨#[.agg C1, .int .u64 lc, .agg C2, .int .u64 oc, .pointer (some ⟨a, 0, none⟩), undef, .pointer (some ⟨b, 0, none⟩), undef, .bool false, .pointer (some ⟨q93, 0, none⟩), .int .u64 (IntKind.u64.wrap (lc + oc)), .pointer (some ⟨q113, 0, none⟩), .int .u64 oc, .pointer (some ⟨q9, 0, none⟩), undef, .pointer (some ⟨q11, 0, none⟩), undef, .agg C1, .agg D1, .agg C2, .agg D2, .tuple #[.agg DL3, .int .u64 (IntKind.u64.wrap (lc + oc)), .agg DB3, .int .u64 oc], .agg D1, .agg DA3, .int .u64 lc, .agg D2, .agg DB3, .int .u64 oc, .tuple #[.agg DL3, .int .u64 (IntKind.u64.wrap (lc + oc)), .agg DB3, .int .u64 oc], .agg DL3, .int .u64 (IntKind.u64.wrap (lc + oc)), .agg DB3, .int .u64 oc, undef, .agg D2, .agg DA, .int .u64 oc, .agg D1, undef, .int .u64 lc, undef, undef, undef, undef, undef, undef, undef, undef, undef, undef, undef, undef, undef], []⟩ wv := by
      intro wv q9 q11 l u DA h
      subst hops hQm
      refine wpAnyH_ready (rs := [4]) (by kernel_rfl) (by simp) ?_
      refine AllReadyH.cons rfl (fun K hK => ?_) AllReadyH.nil
      rw [if_pos (by rfl)]
      go_simp
      refine (clone_any D1 G1 wv (hT.H1.seen.below h.bel (Nat.le_refl _))).mono ?_
      rintro e w' ⟨DB, rfl, hH, hb⟩
      have hd := h.clone4 hH hb
      refine hK.out _ _ hd.bel (fun _ => ?_)
      clear hK K
      try simp only [Act.put, List.getElem_toArray, List.getElem_cons_succ, List.getElem_cons_zero, List.setIfInBounds_toArray, List.set_cons_zero, List.set_cons_succ, List.toList_toArray]
      exact wpAnyH_listed (by kernel_rfl) (H211.out _ q9 q11 _ _ DA _ _ DB hd)
    have H111 : Hid _ := H111'
    clear H111'
    have H110' : ∀ (wv : World) (q9 : Nat) (l u : Nat) (DA : Array Value), RG wk wv G2 G1 (some (l, u, DA)) none (some q9) none → wpAnyH Try.prog .any ops Qm (fun wv => Below wk.heap.size wk wv) 12 #[true, true, true, true, false, true, false, false, false, false, false, false, true, false, false, false, false, false] ⟨#[.agg C1, .int .u64 lc, .agg C2, .int .u64 oc, .pointer (some ⟨a, 0, none⟩), undef, .pointer (some ⟨b, 0, none⟩), undef, .bool false, .pointer (some ⟨q93, 0, none⟩), .int .u64 (IntKind.u64.wrap (lc + oc)), .pointer (some ⟨q113, 0, none⟩), .int .u64 oc, .pointer (some ⟨q9, 0, none⟩), undef, undef, undef, .agg C1, .agg D1, .agg C2, .agg D2, .tuple #[.agg DL3, .int .u64 (IntKind.u64.wrap (lc + oc)), .agg DB3, .int .u64 oc], .agg D1, .agg DA3, .int .u64 lc, .agg D2, .agg DB3, .int .u64 oc, .tuple #[.agg DL3, .int .u64 (IntKind.u64.wrap (lc + oc)), .agg DB3, .int .u64 oc], .agg DL3, .int .u64 (IntKind.u64.wrap (lc + oc)), .agg DB3, .int .u64 oc, undef, .agg D2, .agg DA, .int .u64 oc, .agg D1, undef, .int .u64 lc, undef, undef, undef, undef, undef, undef, undef, undef, undef, undef, undef, undef, undef], []⟩ wv := by
      intro wv q9 l u DA h
      subst hops hQm
      refine wpAnyH_ready (rs := [4, 13]) (by kernel_rfl) (by simp) ?_
      refine AllReadyH.cons rfl (fun K hK => ?_) ?_
      · rw [if_pos (by rfl)]
        go_simp
        refine (clone_any D1 G1 wv (hT.H1.seen.below h.bel (Nat.le_refl _))).mono ?_
        rintro e w' ⟨DB, rfl, hH, hb⟩
        have hd := h.clone4 hH hb
        refine hK.out _ _ hd.bel (fun _ => ?_)
        clear hK K
        try simp only [Act.put, List.getElem_toArray, List.getElem_cons_succ, List.getElem_cons_zero, List.setIfInBounds_toArray, List.set_cons_zero, List.set_cons_succ, List.toList_toArray]
        exact wpAnyH_listed (by kernel_rfl) (H210.out _ q9 _ _ DA _ _ DB hd)
      refine AllReadyH.cons rfl (fun K hK => ?_) AllReadyH.nil
      rw [if_pos (by rfl)]
      go_simp
      refine hK.out _ _ (h.alloc11).bel (fun _ => ?_)
      clear hK K
      try simp only [Act.put, List.getElem_toArray, List.getElem_cons_succ, List.getElem_cons_zero, List.setIfInBounds_toArray, List.set_cons_zero, List.set_cons_succ, List.toList_toArray]
      exact wpAnyH_listed (by kernel_rfl) (H111.out _ q9 wv.heap.size l u DA h.alloc11)
    have H110 : Hid _ := H110'
    clear H110'
    have H101' : ∀ (wv : World) (q11 : Nat) (l u : Nat) (DA : Array Value), RG wk wv G2 G1 (some (l, u, DA)) none none (some q11) → wpAnyH Try.prog .any ops Qm (fun wv => Below wk.heap.size wk wv) 12 #[true, true, true, true, false, true, false, false, false, false, false, false, false, true, false, false, false, false] ⟨#[.agg C1, .int .u64 lc, .agg C2, .int .u64 oc, .pointer (some ⟨a, 0, none⟩), undef, .pointer (some ⟨b, 0, none⟩), undef, .bool false, .pointer (some ⟨q93, 0, none⟩), .int .u64 (IntKind.u64.wrap (lc + oc)), .pointer (some ⟨q113, 0, none⟩), .int .u64 oc, undef, undef, .pointer (some ⟨q11, 0, none⟩), undef, .agg C1, .agg D1, .agg C2, .agg D2, .tuple #[.agg DL3, .int .u64 (IntKind.u64.wrap (lc + oc)), .agg DB3, .int .u64 oc], .agg D1, .agg DA3, .int .u64 lc, .agg D2, .agg DB3, .int .u64 oc, .tuple #[.agg DL3, .int .u64 (IntKind.u64.wrap (lc + oc)), .agg DB3, .int .u64 oc], .agg DL3, .int .u64 (IntKind.u64.wrap (lc + oc)), .agg DB3, .int .u64 oc, undef, .agg D2, .agg DA, .int .u64 oc, .agg D1, undef, .int .u64 lc, undef, undef, undef, undef, undef, undef, undef, undef, undef, undef, undef, undef, undef], []⟩ wv := by
      intro wv q11 l u DA h
      subst hops hQm
      refine wpAnyH_ready (rs := [4, 12]) (by kernel_rfl) (by simp) ?_
      refine AllReadyH.cons rfl (fun K hK => ?_) ?_
      · rw [if_pos (by rfl)]
        go_simp
        refine (clone_any D1 G1 wv (hT.H1.seen.below h.bel (Nat.le_refl _))).mono ?_
        rintro e w' ⟨DB, rfl, hH, hb⟩
        have hd := h.clone4 hH hb
        refine hK.out _ _ hd.bel (fun _ => ?_)
        clear hK K
        try simp only [Act.put, List.getElem_toArray, List.getElem_cons_succ, List.getElem_cons_zero, List.setIfInBounds_toArray, List.set_cons_zero, List.set_cons_succ, List.toList_toArray]
        exact wpAnyH_listed (by kernel_rfl) (H201.out _ q11 _ _ DA _ _ DB hd)
      refine AllReadyH.cons rfl (fun K hK => ?_) AllReadyH.nil
      rw [if_pos (by rfl)]
      go_simp
      refine hK.out _ _ (h.alloc9).bel (fun _ => ?_)
      clear hK K
      try simp only [Act.put, List.getElem_toArray, List.getElem_cons_succ, List.getElem_cons_zero, List.setIfInBounds_toArray, List.set_cons_zero, List.set_cons_succ, List.toList_toArray]
      exact wpAnyH_listed (by kernel_rfl) (H111.out _ wv.heap.size q11 l u DA h.alloc9)
    have H101 : Hid _ := H101'
    clear H101'
    have H100' : ∀ (wv : World) (l u : Nat) (DA : Array Value), RG wk wv G2 G1 (some (l, u, DA)) none none none → wpAnyH Try.prog .any ops Qm (fun wv => Below wk.heap.size wk wv) 13 #[true, true, true, true, false, true, false, false, false, false, false, false, false, false, false, false, false, false] ⟨#[.agg C1, .int .u64 lc, .agg C2, .int .u64 oc, .pointer (some ⟨a, 0, none⟩), undef, .pointer (some ⟨b, 0, none⟩), undef, .bool false, .pointer (some ⟨q93, 0, none⟩), .int .u64 (IntKind.u64.wrap (lc + oc)), .pointer (some ⟨q113, 0, none⟩), .int .u64 oc, undef, undef, undef, undef, .agg C1, .agg D1, .agg C2, .agg D2, .tuple #[.agg DL3, .int .u64 (IntKind.u64.wrap (lc + oc)), .agg DB3, .int .u64 oc], .agg D1, .agg DA3, .int .u64 lc, .agg D2, .agg DB3, .int .u64 oc, .tuple #[.agg DL3, .int .u64 (IntKind.u64.wrap (lc + oc)), .agg DB3, .int .u64 oc], .agg DL3, .int .u64 (IntKind.u64.wrap (lc + oc)), .agg DB3, .int .u64 oc, undef, .agg D2, .agg DA, .int .u64 oc, .agg D1, undef, .int .u64 lc, undef, undef, undef, undef, undef, undef, undef, undef, undef, undef, undef, undef, undef], []⟩ wv := by
      intro wv l u DA h
      subst hops hQm
      refine wpAnyH_ready (rs := [4, 12, 13]) (by kernel_rfl) (by simp) ?_
      refine AllReadyH.cons rfl (fun K hK => ?_) ?_
      · rw [if_pos (by rfl)]
        go_simp
        refine (clone_any D1 G1 wv (hT.H1.seen.below h.bel (Nat.le_refl _))).mono ?_
        rintro e w' ⟨DB, rfl, hH, hb⟩
        have hd := h.clone4 hH hb
        refine hK.out _ _ hd.bel (fun _ => ?_)
        clear hK K
        try simp only [Act.put, List.getElem_toArray, List.getElem_cons_succ, List.getElem_cons_zero, List.setIfInBounds_toArray, List.set_cons_zero, List.set_cons_succ, List.toList_toArray]
        exact wpAnyH_listed (by kernel_rfl) (H200.out _ _ _ DA _ _ DB hd)
      refine AllReadyH.cons rfl (fun K hK => ?_) ?_
      · rw [if_pos (by rfl)]
        go_simp
        refine hK.out _ _ (h.alloc9).bel (fun _ => ?_)
        clear hK K
        try simp only [Act.put, List.getElem_toArray, List.getElem_cons_succ, List.getElem_cons_zero, List.setIfInBounds_toArray, List.set_cons_zero, List.set_cons_succ, List.toList_toArray]
        exact wpAnyH_listed (by kernel_rfl) (H110.out _ wv.heap.size l u DA h.alloc9)
      refine AllReadyH.cons rfl (fun K hK => ?_) AllReadyH.nil
      rw [if_pos (by rfl)]
      go_simp
      refine hK.out _ _ (h.alloc11).bel (fun _ => ?_)
      clear hK K
      try simp only [Act.put, List.getElem_toArray, List.getElem_cons_succ, List.getElem_cons_zero, List.setIfInBounds_toArray, List.set_cons_zero, List.set_cons_succ, List.toList_toArray]
      exact wpAnyH_listed (by kernel_rfl) (H101.out _ wv.heap.size l u DA h.alloc11)
    have H100 : Hid _ := H100'
    clear H100'
    have H011' : ∀ (wv : World) (q9 : Nat) (q11 : Nat), RG wk wv G2 G1 none none (some q9) (some q11) → wpAnyH Try.prog .any ops Qm (fun wv => Below wk.heap.size wk wv) 12 #[true, false, true, true, false, true, false, false, false, false, false, false, true, true, false, false, false, false] ⟨#[.agg C1, .int .u64 lc, .agg C2, .int .u64 oc, .pointer (some ⟨a, 0, none⟩), undef, .pointer (some ⟨b, 0, none⟩), undef, .bool false, .pointer (some ⟨q93, 0, none⟩), .int .u64 (IntKind.u64.wrap (lc + oc)), .pointer (some ⟨q113, 0, none⟩), .int .u64 oc, .pointer (some ⟨q9, 0, none⟩), undef, .pointer (some ⟨q11, 0, none⟩), undef, .agg C1, .agg D1, .agg C2, .agg D2, .tuple #[.agg DL3, .int .u64 (IntKind.u64.wrap (lc + oc)), .agg DB3, .int .u64 oc], .agg D1, .agg DA3, .int .u64 lc, .agg D2, .agg DB3, .int .u64 oc, .tuple #[.agg DL3, .int .u64 (IntKind.u64.wrap (lc + oc)), .agg DB3, .int .u64 oc], .agg DL3, .int .u64 (IntKind.u64.wrap (lc + oc)), .agg DB3, .int .u64 oc, undef, .agg D2, undef, .int .u64 oc, .agg D1, undef, .int .u64 lc, undef, undef, undef, undef, undef, undef, undef, undef, undef, undef, undef, undef, undef], []⟩ wv := by
      intro wv q9 q11 h
      subst hops hQm
      refine wpAnyH_ready (rs := [1]) (by kernel_rfl) (by simp) ?_
      refine AllReadyH.cons rfl (fun K hK => ?_) AllReadyH.nil
      rw [if_pos (by rfl)]
      go_simp
      refine (clone_any D2 G2 wv (hT.H2.seen.below h.bel (Nat.le_refl _))).mono ?_
      rintro e w' ⟨DA, rfl, hH, hb⟩
      have hd := h.clone3 hH hb
      refine hK.out _ _ hd.bel (fun _ => ?_)
      clear hK K
      try simp only [Act.put, List.getElem_toArray, List.getElem_cons_succ, List.getElem_cons_zero, List.setIfInBounds_toArray, List.set_cons_zero, List.set_cons_succ, List.toList_toArray]
      exact wpAnyH_listed (by kernel_rfl) (H111.out _ q9 q11 _ _ DA hd)
    have H011 : Hid _ := H011'
    clear H011'
    have H010' : ∀ (wv : World) (q9 : Nat), RG wk wv G2 G1 none none (some q9) none → wpAnyH Try.prog .any ops Qm (fun wv => Below wk.heap.size wk wv) 13 #[true, false, true, true, false, true, false, false, false, false, false, false, true, false, false, false, false, false] ⟨#[.agg C1, .int .u64 lc, .agg C2, .int .u64 oc, .pointer (some ⟨a, 0, none⟩), undef, .pointer (some ⟨b, 0, none⟩), undef, .bool false, .pointer (some ⟨q93, 0, none⟩), .int .u64 (IntKind.u64.wrap (lc + oc)), .pointer (some ⟨q113, 0, none⟩), .int .u64 oc, .pointer (some ⟨q9, 0, none⟩), undef, undef, undef, .agg C1, .agg D1, .agg C2, .agg D2, .tuple #[.agg DL3, .int .u64 (IntKind.u64.wrap (lc + oc)), .agg DB3, .int .u64 oc], .agg D1, .agg DA3, .int .u64 lc, .agg D2, .agg DB3, .int .u64 oc, .tuple #[.agg DL3, .int .u64 (IntKind.u64.wrap (lc + oc)), .agg DB3, .int .u64 oc], .agg DL3, .int .u64 (IntKind.u64.wrap (lc + oc)), .agg DB3, .int .u64 oc, undef, .agg D2, undef, .int .u64 oc, .agg D1, undef, .int .u64 lc, undef, undef, undef, undef, undef, undef, undef, undef, undef, undef, undef, undef, undef], []⟩ wv := by
      intro wv q9 h
      subst hops hQm
      refine wpAnyH_ready (rs := [1, 13]) (by kernel_rfl) (by simp) ?_
      refine AllReadyH.cons rfl (fun K hK => ?_) ?_
      · rw [if_pos (by rfl)]
        go_simp
        refine (clone_any D2 G2 wv (hT.H2.seen.below h.bel (Nat.le_refl _))).mono ?_
        rintro e w' ⟨DA, rfl, hH, hb⟩
        have hd := h.clone3 hH hb
        refine hK.out _ _ hd.bel (fun _ => ?_)
        clear hK K
        try simp only [Act.put, List.getElem_toArray, List.getElem_cons_succ, List.getElem_cons_zero, List.setIfInBounds_toArray, List.set_cons_zero, List.set_cons_succ, List.toList_toArray]
        exact wpAnyH_listed (by kernel_rfl) (H110.out _ q9 _ _ DA hd)
      refine AllReadyH.cons rfl (fun K hK => ?_) AllReadyH.nil
      rw [if_pos (by rfl)]
      go_simp
      refine hK.out _ _ (h.alloc11).bel (fun _ => ?_)
      clear hK K
      try simp only [Act.put, List.getElem_toArray, List.getElem_cons_succ, List.getElem_cons_zero, List.setIfInBounds_toArray, List.set_cons_zero, List.set_cons_succ, List.toList_toArray]
      exact wpAnyH_listed (by kernel_rfl) (H011.out _ q9 wv.heap.size h.alloc11)
    have H010 : Hid _ := H010'
    clear H010'
    have H001' : ∀ (wv : World) (q11 : Nat), RG wk wv G2 G1 none none none (some q11) → wpAnyH Try.prog .any ops Qm (fun wv => Below wk.heap.size wk wv) 13 #[true, false, true, true, false, true, false, false, false, false, false, false, false, true, false, false, false, false] ⟨#[.agg C1, .int .u64 lc, .agg C2, .int .u64 oc, .pointer (some ⟨a, 0, none⟩), undef, .pointer (some ⟨b, 0, none⟩), undef, .bool false, .pointer (some ⟨q93, 0, none⟩), .int .u64 (IntKind.u64.wrap (lc + oc)), .pointer (some ⟨q113, 0, none⟩), .int .u64 oc, undef, undef, .pointer (some ⟨q11, 0, none⟩), undef, .agg C1, .agg D1, .agg C2, .agg D2, .tuple #[.agg DL3, .int .u64 (IntKind.u64.wrap (lc + oc)), .agg DB3, .int .u64 oc], .agg D1, .agg DA3, .int .u64 lc, .agg D2, .agg DB3, .int .u64 oc, .tuple #[.agg DL3, .int .u64 (IntKind.u64.wrap (lc + oc)), .agg DB3, .int .u64 oc], .agg DL3, .int .u64 (IntKind.u64.wrap (lc + oc)), .agg DB3, .int .u64 oc, undef, .agg D2, undef, .int .u64 oc, .agg D1, undef, .int .u64 lc, undef, undef, undef, undef, undef, undef, undef, undef, undef, undef, undef, undef, undef], []⟩ wv := by
      intro wv q11 h
      subst hops hQm
      refine wpAnyH_ready (rs := [1, 12]) (by kernel_rfl) (by simp) ?_
      refine AllReadyH.cons rfl (fun K hK => ?_) ?_
      · rw [if_pos (by rfl)]
        go_simp
        refine (clone_any D2 G2 wv (hT.H2.seen.below h.bel (Nat.le_refl _))).mono ?_
        rintro e w' ⟨DA, rfl, hH, hb⟩
        have hd := h.clone3 hH hb
        refine hK.out _ _ hd.bel (fun _ => ?_)
        clear hK K
        try simp only [Act.put, List.getElem_toArray, List.getElem_cons_succ, List.getElem_cons_zero, List.setIfInBounds_toArray, List.set_cons_zero, List.set_cons_succ, List.toList_toArray]
        exact wpAnyH_listed (by kernel_rfl) (H101.out _ q11 _ _ DA hd)
      refine AllReadyH.cons rfl (fun K hK => ?_) AllReadyH.nil
      rw [if_pos (by rfl)]
      go_simp
      refine hK.out _ _ (h.alloc9).bel (fun _ => ?_)
      clear hK K
      try simp only [Act.put, List.getElem_toArray, List.getElem_cons_succ, List.getElem_cons_zero, List.setIfInBounds_toArray, List.set_cons_zero, List.set_cons_succ, List.toList_toArray]
      exact wpAnyH_listed (by kernel_rfl) (H011.out _ wv.heap.size q11 h.alloc9)
    have H001 : Hid _ := H001'
    clear H001'
    have H000' : ∀ (wv : World), RG wk wv G2 G1 none none none none → wpAnyH Try.prog .any ops Qm (fun wv => Below wk.heap.size wk wv) 14 #[true, false, true, true, false, true, false, false, false, false, false, false, false, false, false, false, false, false] ⟨#[.agg C1, .int .u64 lc, .agg C2, .int .u64 oc, .pointer (some ⟨a, 0, none⟩), undef, .pointer (some ⟨b, 0, none⟩), undef, .bool false, .pointer (some ⟨q93, 0, none⟩), .int .u64 (IntKind.u64.wrap (lc + oc)), .pointer (some ⟨q113, 0, none⟩), .int .u64 oc, undef, undef, undef, undef, .agg C1, .agg D1, .agg C2, .agg D2, .tuple #[.agg DL3, .int .u64 (IntKind.u64.wrap (lc + oc)), .agg DB3, .int .u64 oc], .agg D1, .agg DA3, .int .u64 lc, .agg D2, .agg DB3, .int .u64 oc, .tuple #[.agg DL3, .int .u64 (IntKind.u64.wrap (lc + oc)), .agg DB3, .int .u64 oc], .agg DL3, .int .u64 (IntKind.u64.wrap (lc + oc)), .agg DB3, .int .u64 oc, undef, .agg D2, undef, .int .u64 oc, .agg D1, undef, .int .u64 lc, undef, undef, undef, undef, undef, undef, undef, undef, undef, undef, undef, undef, undef], []⟩ wv := by
      intro wv h
      subst hops hQm
      refine wpAnyH_ready (rs := [1, 12, 13]) (by kernel_rfl) (by simp) ?_
      refine AllReadyH.cons rfl (fun K hK => ?_) ?_
      · rw [if_pos (by rfl)]
        go_simp
        refine (clone_any D2 G2 wv (hT.H2.seen.below h.bel (Nat.le_refl _))).mono ?_
        rintro e w' ⟨DA, rfl, hH, hb⟩
        have hd := h.clone3 hH hb
        refine hK.out _ _ hd.bel (fun _ => ?_)
        clear hK K
        try simp only [Act.put, List.getElem_toArray, List.getElem_cons_succ, List.getElem_cons_zero, List.setIfInBounds_toArray, List.set_cons_zero, List.set_cons_succ, List.toList_toArray]
        exact wpAnyH_listed (by kernel_rfl) (H100.out _ _ _ DA hd)
      refine AllReadyH.cons rfl (fun K hK => ?_) ?_
      · rw [if_pos (by rfl)]
        go_simp
        refine hK.out _ _ (h.alloc9).bel (fun _ => ?_)
        clear hK K
        try simp only [Act.put, List.getElem_toArray, List.getElem_cons_succ, List.getElem_cons_zero, List.setIfInBounds_toArray, List.set_cons_zero, List.set_cons_succ, List.toList_toArray]
        exact wpAnyH_listed (by kernel_rfl) (H010.out _ wv.heap.size h.alloc9)
      refine AllReadyH.cons rfl (fun K hK => ?_) AllReadyH.nil
      rw [if_pos (by rfl)]
      go_simp
      refine hK.out _ _ (h.alloc11).bel (fun _ => ?_)
      clear hK K
      try simp only [Act.put, List.getElem_toArray, List.getElem_cons_succ, List.getElem_cons_zero, List.setIfInBounds_toArray, List.set_cons_zero, List.set_cons_succ, List.toList_toArray]
      exact wpAnyH_listed (by kernel_rfl) (H001.out _ wv.heap.size h.alloc11)
    have H000 : Hid _ := H000'
    clear H000'
    subst hops hQm
    have hiX : (Try.prog.info? 35).map (·.size) = some D2.toList.length := by rw [Array.length_toList, hD2]; exact size35
    have hiY : (Try.prog.info? 35).map (·.size) = some D1.toList.length := by rw [Array.length_toList, hD1]; exact size35
    refine wpAnyH_take (i := 0) (v := .agg D2.toList.toArray) rfl (by kernel_rfl) (by kernel_rfl) (by kernel_rfl) (fun _ _ _ h => by cases h.1) (yieldsIf_load_mid (by rfl) 35 (.tmp 6) rfl b 0 rfl D2.toList _ (fun w hw j v hv => by rw [Nat.zero_add, cell_of_row _ _ _ _ _ _ (rd_below hw hT.B (lt_of_block hT.B))]; simpa using hv) Try.underlying35 rfl hiX) hS ?_
    try simp only [Act.put, List.getElem_toArray, List.getElem_cons_succ, List.getElem_cons_zero, List.setIfInBounds_toArray, List.set_cons_zero, List.set_cons_succ, List.toList_toArray]
    refine wpAnyH_take (i := 2) (v := .int .u64 oc) rfl (by kernel_rfl) (by kernel_rfl) (by kernel_rfl) (fun _ _ _ h => by cases h.1) (Or.inl ⟨by rfl, fun w _ => by go_simp⟩) hS ?_
    try simp only [Act.put, List.getElem_toArray, List.getElem_cons_succ, List.getElem_cons_zero, List.setIfInBounds_toArray, List.set_cons_zero, List.set_cons_succ, List.toList_toArray]
    refine wpAnyH_take (i := 3) (v := .agg D1.toList.toArray) rfl (by kernel_rfl) (by kernel_rfl) (by kernel_rfl) (fun _ _ _ h => by cases h.1) (yieldsIf_load_mid (by rfl) 35 (.tmp 4) rfl a 0 rfl D1.toList _ (fun w hw j v hv => by rw [Nat.zero_add, cell_of_row _ _ _ _ _ _ (rd_below hw hT.A (lt_of_block hT.A))]; simpa using hv) Try.underlying35 rfl hiY) hS ?_
    try simp only [Act.put, List.getElem_toArray, List.getElem_cons_succ, List.getElem_cons_zero, List.setIfInBounds_toArray, List.set_cons_zero, List.set_cons_succ, List.toList_toArray]
    refine wpAnyH_take (i := 5) (v := .int .u64 lc) rfl (by kernel_rfl) (by kernel_rfl) (by kernel_rfl) (fun _ _ _ h => by cases h.1) (Or.inl ⟨by rfl, fun w _ => by go_simp⟩) hS ?_
    try simp only [Act.put, List.getElem_toArray, List.getElem_cons_succ, List.getElem_cons_zero, List.setIfInBounds_toArray, List.set_cons_zero, List.set_cons_succ, List.toList_toArray]
    simp only [Array.toArray_toList]
    exact wpAnyH_listed (by kernel_rfl) (H000.out _ (RG.start hS))
  rintro e act wu ⟨rfl, q13, q15, DA4, DB4, DL4, rfl, hN⟩
  obtain ⟨G4, hP4, hG4⟩ := hN.rows
  have hDL4 := hP4.size
  have c9 := rd_below hN.bel HC3.out (lt_of_block HC3.out)
  have c13 := hN.blk
  have s3 := HS3.out.below hN.bel (Nat.le_refl _)
  have s4 : SeenR wu DL4 G3 := hP4.seen.congr (fun r hr => by rw [HG3.out r hr, hG4 r hr, addRow_comm])
  have HBe : Hid (Below w.heap.size w wu) := HTT.out.be.trans (hN.bel.mono HTT.out.be.size)
  dsimp only
  rw [Int.add_comm oc lc]
  clear HS3 HG3 HC3 HTT HF1 HF2 hT hf1 hf2 hN hP4 hG4 hz35 hD1 hD2
  go_wp2_with (first
    | ((with_reducible show wpList Try.prog _ _ (⟨_, Op.load 35 (Operand.tmp 9), _, _, _, _⟩ :: _) _ _); refine wpList_load_row_if (by rfl) 35 (.tmp 9) rfl q93 rfl DL3 35 c9 54 34 Try.underlying35 size35 hDL3 ?_)
    | ((with_reducible show wpList Try.prog _ _ (⟨_, Op.load 35 (Operand.tmp 13), _, _, _, _⟩ :: _) _ _); refine wpList_load_row_if (by rfl) 35 (.tmp 13) rfl q13 rfl DL4 35 c13 54 34 Try.underlying35 size35 hDL4 ?_))
  refine (same_any DL3 DL4 G3 _ s3 s4).mono ?_
  rintro e w6 ⟨rfl, hb6⟩
  have HB6 : Hid (Below wu.heap.size wu w6) := hb6
  clear hb6 s3 s4 c9 c13
  go_wp2
  go_ret
  exact ⟨rfl, HBe.out.trans (HB6.out.mono HBe.out.size)⟩

end Go.Proofs.Qxb6601538a
