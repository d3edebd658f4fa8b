/-
  FnLatenciesAddExact (6): the walk.
-/
import Derived.Test.Qxb6601538aTwo
namespace Go.Proofs.Qxb6601538a
open Go Go.RowKit
set_option linter.unusedVariables false
set_option linter.unusedSimpArgs false

set_option maxRecDepth 100000 in
set_option maxHeartbeats 2000000 in
theorem fn6_any (w : World) (C1 C2 : Array Value) (lc oc : Int) (G1 G2 : Cont) (hs1 : SeenR w C1 G1) (hs2 : SeenR w C2 G2) (hf1 : G1.fits) (hf2 : G2.fits) :
    Calls Try.prog 6 #[.agg C1, .int .u64 lc, .agg C2, .int .u64 oc] w fun e w' => e = .returned (.bool true) ∧ Below w.heap.size w w' := by
  have hz35 := zero35
  have hC1 := hs1.size
  have hC2 := hs2.size
  go_enter Try.func6, Try.ntmps6
  go_wp2_with (refine wpList_load_row rfl 35 (.tmp 4) rfl w.heap.size rfl C1 35 (rd_old (rd_new rfl)) 54 34 Try.underlying35 size35 hC1 ?_)
  have hb0 : Below w.heap.size w ((w.alloc (.cells C1 35)).alloc (.cells C2 35)) := ((Below.refl _ _).alloc (Nat.le_refl _) _).alloc (by simp) _
  refine (clone_any C1 G1 _ (hs1.below hb0 (Nat.le_refl _))).mono ?_
  rintro e w1 ⟨D1, rfl, hH1, hb1⟩
  have a1 : w1.heap[w.heap.size]? = some (.cells C1 35 (0, 0)) := rd_below hb1 (rd_old (rd_new rfl)) (by simp <;> omega)
  have b1 : (w1.setRow w.heap.size D1).heap[w.heap.size + 1]? = some (.cells C2 35 (0, 0)) := rd_other (by omega) (rd_below hb1 (rd_new (by simp)) (by simp))
  have hD1 := hH1.size
  have hone1 := hH1.oneCell
  have hse2 : SeenR (w1.setRow w.heap.size D1) C2 G2 := hs2.below (Below.setRow' (hb0.trans (hb1.mono (by simp <;> omega))) (Nat.le_refl _) D1) (Nat.le_refl _)
  have HH1 : Hid (Held w1 ((w.alloc (.cells C1 35)).alloc (.cells C2 35)).heap.size w1.heap.size D1 54 G1) := hH1
  have HB1 : Hid (Below ((w.alloc (.cells C1 35)).alloc (.cells C2 35)).heap.size ((w.alloc (.cells C1 35)).alloc (.cells C2 35)) w1) := hb1
  clear hH1 hb1 hb0 hs1 hs2
  go_wp2_with (first
    | ((with_reducible show wpList Try.prog _ _ (⟨_, Op.store 35 (Operand.tmp 4) _, _, _, _, _⟩ :: _) _ _); refine wpList_store_row rfl 35 (.tmp 4) (.tmp 22) rfl w.heap.size C1 D1 rfl rfl 35 a1 54 size35 hC1 hD1 hone1 ?_)
    | ((with_reducible show wpList Try.prog _ _ (⟨_, Op.load 35 (Operand.tmp 6), _, _, _, _⟩ :: _) _ _); refine wpList_load_row rfl 35 (.tmp 6) rfl (w.heap.size + 1) rfl C2 35 b1 54 34 Try.underlying35 size35 hC2 ?_))
  refine (clone_any C2 G2 _ hse2).mono ?_
  rintro e w2 ⟨D2, rfl, hH2, hb2⟩
  have hT := Two.start hC1 hC2 HH1.out HB1.out hH2 hb2
  have b2 : w2.heap[w.heap.size + 1]? = some (.cells C2 35 (0, 0)) := rd_below hb2 b1 (lt_of_block b1)
  have hD2 := hH2.size
  have hone2 := hH2.oneCell
  have k1 := hT.A
  have HT : Hid (Two w (w2.setRow (w.heap.size + 1) D2) w.heap.size (w.heap.size + 1) D1 D2 G1 G2 (w.heap.size + 2) w2.heap.size) := hT
  clear hT HH1 HB1 hH2 hb2 a1 b1 hse2
  go_wp2_with (first
    | ((with_reducible show wpList Try.prog _ _ (⟨_, Op.store 35 (Operand.tmp 6) _, _, _, _, _⟩ :: _) _ _); refine wpList_store_row rfl 35 (.tmp 6) (.tmp 24) rfl (w.heap.size + 1) C2 D2 rfl rfl 35 b2 54 size35 hC2 hD2 hone2 ?_)
    | ((with_reducible show wpList Try.prog _ _ (⟨_, Op.load 35 (Operand.tmp 4), _, _, _, _⟩ :: _) _ _); refine wpList_load_row rfl 35 (.tmp 4) rfl w.heap.size rfl D1 35 k1 54 34 Try.underlying35 size35 hD1 ?_))
  have hT := HT.out
  clear HT k1 b2
  generalize w2.setRow (w.heap.size + 1) D2 = wz at hT ⊢
  generalize w2.heap.size = hi at hT ⊢
  generalize w.heap.size + 2 = lo at hT ⊢
  generalize w.heap.size + 1 = b at hT ⊢
  generalize hA : w.heap.size = a at hT ⊢
  refine (clone_any D1 G1 wz hT.H1.seen).mono ?_
  rintro e w3 ⟨D3, rfl, hH3, hb3⟩
  have hD3 := hH3.size
  have hone3 := hH3.oneCell
  have hBW : Below wz.heap.size wz ((w3.alloc (.cells Z35 35)).setRow w3.heap.size D3) := Below.setRow' (hb3.alloc (by have := hb3.size; omega) _) hb3.size _
  have c9 : ((w3.alloc (.cells Z35 35)).setRow w3.heap.size D3).heap[w3.heap.size]? = some (.cells D3 35 (0, 0)) := rd_same (rd_new rfl)
  have hT3 := hT.below hBW
  have hH3' : Held ((w3.alloc (.cells Z35 35)).setRow w3.heap.size D3) wz.heap.size w3.heap.size D3 54 G1 :=
    (hH3.below ((Below.refl _ _).alloc (Nat.le_refl _) _) (Nat.le_refl _)).out (Out.setRow _ _) (.inl (Nat.le_refl _))
  have l3 : hi ≤ wz.heap.size ∧ wz.heap.size ≤ w3.heap.size ∧ w3.heap.size + 1 = ((w3.alloc (.cells Z35 35)).setRow w3.heap.size D3).heap.size := ⟨hT.hs, hb3.size, by simp [World.setRow]⟩
  have k6 := hT3.B
  have HT : Hid (Two w ((w3.alloc (.cells Z35 35)).setRow w3.heap.size D3) a b D1 D2 G1 G2 lo hi) := hT3
  have HH3 : Hid (Held ((w3.alloc (.cells Z35 35)).setRow w3.heap.size D3) wz.heap.size w3.heap.size D3 54 G1) := hH3'
  clear hT3 hT hH3' hH3 hb3 hBW
  go_wp2_with (first
    | ((with_reducible show wpList Try.prog _ _ (⟨_, Op.store 35 (Operand.tmp 9) _, _, _, _, _⟩ :: _) _ _); refine wpList_store_row rfl 35 (.tmp 9) (.tmp 26) rfl w3.heap.size Z35 D3 rfl rfl 35 (rd_new rfl) 54 size35 Z35_size hD3 hone3 ?_)
    | ((with_reducible show wpList Try.prog _ _ (⟨_, Op.load 35 (Operand.tmp 6), _, _, _, _⟩ :: _) _ _); refine wpList_load_row rfl 35 (.tmp 6) rfl b rfl D2 35 k6 54 34 Try.underlying35 size35 hD2 ?_))
  have hT := HT.out
  have hH3 := HH3.out
  clear HT HH3 k6
  generalize (w3.alloc (.cells Z35 35)).setRow w3.heap.size D3 = wy at hT hH3 c9 l3 ⊢
  generalize w3.heap.size = t9 at hT hH3 c9 l3 ⊢
  generalize wz.heap.size = lo3 at hT hH3 l3
  refine (clone_any D2 G2 wy hT.H2.seen).mono ?_
  rintro e w4 ⟨D4, rfl, hH4, hb4⟩
  have hD4 := hH4.size
  have hone4 := hH4.oneCell
  have hBW : Below wy.heap.size wy ((w4.alloc (.cells Z35 35)).setRow w4.heap.size D4) := Below.setRow' (hb4.alloc (by have := hb4.size; omega) _) hb4.size _
  have c9' : ((w4.alloc (.cells Z35 35)).setRow w4.heap.size D4).heap[t9]? = some (.cells D3 35 (0, 0)) := rd_below hBW c9 (by omega)
  have c10 : ((w4.alloc (.cells Z35 35)).setRow w4.heap.size D4).heap[w4.heap.size]? = some (.cells D4 35 (0, 0)) := rd_same (rd_new rfl)
  have hH4' : Held ((w4.alloc (.cells Z35 35)).setRow w4.heap.size D4) wy.heap.size w4.heap.size D4 54 G2 :=
    (hH4.below ((Below.refl _ _).alloc (Nat.le_refl _) _) (Nat.le_refl _)).out (Out.setRow _ _) (.inl (Nat.le_refl _))
  have l4 : wy.heap.size ≤ w4.heap.size ∧ w4.heap.size + 1 = ((w4.alloc (.cells Z35 35)).setRow w4.heap.size D4).heap.size := ⟨hb4.size, by simp [World.setRow]⟩
  have HT : Hid (Two w ((w4.alloc (.cells Z35 35)).setRow w4.heap.size D4) a b D1 D2 G1 G2 lo hi) := hT.below hBW
  have HH3 : Hid (Held ((w4.alloc (.cells Z35 35)).setRow w4.heap.size D4) lo3 t9 D3 54 G1) := hH3.below hBW (by omega)
  have HH4 : Hid (Held ((w4.alloc (.cells Z35 35)).setRow w4.heap.size D4) wy.heap.size w4.heap.size D4 54 G2) := hH4'
  clear hT hH3 hH4' hH4 hb4 hBW c9
  go_wp2_with (first
    | ((with_reducible show wpList Try.prog _ _ (⟨_, Op.store 35 (Operand.tmp 10) _, _, _, _, _⟩ :: _) _ _); refine wpList_store_row rfl 35 (.tmp 10) (.tmp 28) rfl w4.heap.size Z35 D4 rfl rfl 35 (rd_new rfl) 54 size35 Z35_size hD4 hone4 ?_)
    | ((with_reducible show wpList Try.prog _ _ (⟨_, Op.load 35 (Operand.tmp 9), _, _, _, _⟩ :: _) _ _); refine wpList_load_row rfl 35 (.tmp 9) rfl t9 rfl D3 35 c9' 54 34 Try.underlying35 size35 hD3 ?_)
    | ((with_reducible show wpList Try.prog _ _ (⟨_, Op.load 35 (Operand.tmp 10), _, _, _, _⟩ :: _) _ _); refine wpList_load_row rfl 35 (.tmp 10) rfl w4.heap.size rfl D4 35 c10 54 34 Try.underlying35 size35 hD4 ?_))
  have hT := HT.out
  have hH3 := HH3.out
  have hH4 := HH4.out
  clear HT HH3 HH4 c9' c10
  generalize (w4.alloc (.cells Z35 35)).setRow w4.heap.size D4 = wx at hT hH3 hH4 l4 ⊢
  generalize w4.heap.size = t10 at hH4 l4 ⊢
  generalize wy.heap.size = lo4 at hH4 l3 l4
  refine (zzadd_any wx lo3 t9 lo4 t10 D3 lc D4 oc G1 G2 hH3 hH4 (.inr (by omega)) (by omega) (by omega) hf2).mono ?_
  rintro e w5 ⟨DL, G', rfl, hP, hG', hO5⟩
  have hT5 := hT.out hO5 (by omega)
  have hS4 := (hH4.out hO5 (.inr (by omega))).seen
  have hDL := hP.size
  have honeL := hP.oneCell
  have e5 : (((w5.alloc (.cells Z35 35)).alloc (.cells Z35 35)).setRow w5.heap.size DL).heap[w5.heap.size + 1]? = some (.cells Z35 35 (0, 0)) := rd_other (by omega) (rd_new (by simp))
  have hBW : Below w5.heap.size w5 ((((w5.alloc (.cells Z35 35)).alloc (.cells Z35 35)).setRow w5.heap.size DL).setRow (w5.heap.size + 1) D4) :=
    Below.setRow' (Below.setRow' (((Below.refl _ _).alloc (Nat.le_refl _) _).alloc (by simp) _) (Nat.le_refl _) _) (by omega) _
  have c13 : ((((w5.alloc (.cells Z35 35)).alloc (.cells Z35 35)).setRow w5.heap.size DL).setRow (w5.heap.size + 1) D4).heap[w5.heap.size + 1]? = some (.cells D4 35 (0, 0)) := rd_same e5
  have c11 : ((((w5.alloc (.cells Z35 35)).alloc (.cells Z35 35)).setRow w5.heap.size DL).setRow (w5.heap.size + 1) D4).heap[w5.heap.size]? = some (.cells DL 35 (0, 0)) := rd_other (by omega) (rd_same (rd_old (rd_new rfl)))
  have HC11 : Hid (((((w5.alloc (.cells Z35 35)).alloc (.cells Z35 35)).setRow w5.heap.size DL).setRow (w5.heap.size + 1) D4).heap[w5.heap.size]? = some (.cells DL 35 (0, 0))) := c11
  have HSL : Hid (SeenR ((((w5.alloc (.cells Z35 35)).alloc (.cells Z35 35)).setRow w5.heap.size DL).setRow (w5.heap.size + 1) D4) DL G') := hP.seen.below hBW (Nat.le_refl _)
  have HS4 : Hid (SeenR ((((w5.alloc (.cells Z35 35)).alloc (.cells Z35 35)).setRow w5.heap.size DL).setRow (w5.heap.size + 1) D4) D4 G2) := hS4.below hBW (Nat.le_refl _)
  have HT : Hid (Two w ((((w5.alloc (.cells Z35 35)).alloc (.cells Z35 35)).setRow w5.heap.size DL).setRow (w5.heap.size + 1) D4) a b D1 D2 G1 G2 lo hi) := hT5.below hBW
  have HC13 : Hid (((((w5.alloc (.cells Z35 35)).alloc (.cells Z35 35)).setRow w5.heap.size DL).setRow (w5.heap.size + 1) D4).heap[w5.heap.size + 1]? = some (.cells D4 35 (0, 0))) := c13
  have HE5 : Hid ((((w5.alloc (.cells Z35 35)).alloc (.cells Z35 35)).setRow w5.heap.size DL).heap[w5.heap.size + 1]? = some (.cells Z35 35 (0, 0))) := e5
  clear c13 e5
  have HG : Hid (∀ r, r < 54 → G' r = addRow (G1 r) (G2 r)) := hG'
  have HF1 : Hid G1.fits := hf1
  have HF2 : Hid G2.fits := hf2
  clear hT hT5 hS4 hP hG' hO5 hBW c11 hH3 hH4 l3 l4 hf1 hf2 hone1 hone2 hone3 hC1 hC2
  go_wp2_with (first
    | ((with_reducible show wpList Try.prog _ _ (⟨_, Op.store 35 (Operand.tmp 11) _, _, _, _, _⟩ :: _) _ _); refine wpList_store_row rfl 35 (.tmp 11) (.tmp 35) rfl w5.heap.size Z35 DL rfl rfl 35 (rd_old (rd_new rfl)) 54 size35 Z35_size hDL honeL ?_)
    | ((with_reducible show wpList Try.prog _ _ (⟨_, Op.store 35 (Operand.tmp 13) _, _, _, _, _⟩ :: _) _ _); refine wpList_store_row rfl 35 (.tmp 13) (.tmp 37) rfl (w5.heap.size + 1) Z35 D4 rfl rfl 35 HE5.out 54 size35 Z35_size hD4 hone4 ?_;
       (generalize ((((w5.alloc (.cells Z35 35)).alloc (.cells Z35 35)).setRow w5.heap.size DL).setRow (w5.heap.size + 1) D4) = wv at HC13 HC11 HSL HS4 HT ⊢);
       (generalize w5.heap.size + 1 = t13 at HC13 HC11 HSL HS4 HT ⊢);
       (generalize w5.heap.size = t11 at HC13 HC11 HSL HS4 HT ⊢); clear HE5 hz35)
    | ((with_reducible show wpList Try.prog _ _ (⟨_, Op.load 35 (Operand.tmp 13), _, _, _, _⟩ :: _) _ _); refine wpList_load_row rfl 35 (.tmp 13) rfl _ rfl D4 35 HC13.out 54 34 Try.underlying35 size35 hD4 ?_)
    | ((with_reducible show wpList Try.prog _ _ (⟨_, Op.load 35 (Operand.tmp 6), _, _, _, _⟩ :: _) _ _); refine wpList_load_row rfl 35 (.tmp 6) rfl b rfl D2 35 HT.out.B 54 34 Try.underlying35 size35 hD2 ?_))
  refine (same_any D4 D2 G2 _ HS4.out HT.out.H2.seen).mono ?_
  rintro e w6 ⟨rfl, hb6⟩
  have hT := HT.out.below hb6
  have c11 := rd_below hb6 HC11.out (lt_of_block HC11.out)
  have hSL := HSL.out.below hb6 (Nat.le_refl _)
  clear HT HC11 HSL HS4 hb6 HC13
  go_wp2
  have hS1 := hT.H1.seen
  have hS2 := hT.H2.seen
  have HBe : Hid (Below w.heap.size w w6) := hT.be
  have hA := hT.A
  have hB := hT.B
  clear hT hD1 hD2 hD3 hD4 hone4 hDL honeL
  go_loopw [15] (fun i wr => ∃ k : Nat, k ≤ 54 ∧ i = .int .i64 k ∧ wr = w6) (fun i _ => 54 - (intOf i).toNat)
  case atStart => exact ⟨0, by omega, rfl, rfl⟩
  case round =>
    obtain ⟨k, hk, rfl, rfl⟩ := hrel
    by_cases hlt : k < 54
    · have b0 : (0 : Int) ≤ (k : Int) := by omega
      have b1 : (k : Int) < 54 := by omega
      have hg := HG.out k hlt
      rcases hS1.row k hlt with ⟨h1, g1⟩ | ⟨p1, o1, l, h1, g1, e1⟩
      · rcases hS2.row k hlt with ⟨h2, g2⟩ | ⟨p2, o2, o, h2, g2, e2⟩
        · rw [g1, g2] at hg
          rcases hSL.row k hlt with ⟨h3, g3⟩ | ⟨p3, o3, f, h3, g3, e3⟩
          · have k1 := (cell_of_row _ _ k _ _ _ hA).trans h1
            have k2 := (cell_of_row _ _ k _ _ _ hB).trans h2
            have k3 := (cell_of_row _ _ k _ _ _ c11).trans h3
            clear h1 h2 h3 hA hB c11 hSL hS1 hS2 HG hg g1 g2 g3
            go_wp2
            go_roundw
            case rel => exact ⟨k + 1, by omega, by go_num, trivial⟩
            case measure => simp [intOf]; omega
          · rw [hg] at g3; cases g3
        · rw [g1, g2] at hg
          rcases hSL.row k hlt with ⟨h3, g3⟩ | ⟨p3, o3, f, h3, g3, e3⟩
          · rw [hg] at g3; cases g3
          · obtain rfl : f = o := by rw [hg] at g3; exact (Option.some.inj g3).symm
            have k1 := (cell_of_row _ _ k _ _ _ hA).trans h1
            have k2 := (cell_of_row _ _ k _ _ _ hB).trans h2
            have k3 := (cell_of_row _ _ k _ _ _ c11).trans h3
            have E2 : Hid (∀ c, c < 1024 → wr.cell? ⟨p2, o2 + c, none⟩ = some (.int .u64 (f c))) := e2
            have E3 : Hid (∀ c, c < 1024 → wr.cell? ⟨p3, o3 + c, none⟩ = some (.int .u64 (f c))) := e3
            clear h1 h2 h3 hA hB c11 hSL hS1 hS2 HG hg g1 g3 e2 e3
            have HG2 : Hid (G2 k = some f) := g2
            clear g2
            go_wp2
            go_loopw [19] (fun i wq => ∃ c : Nat, c ≤ 1024 ∧ i = .int .i64 c ∧ wq = wr) (fun i _ => 1024 - (intOf i).toNat)
            case atStart => exact ⟨0, by omega, rfl, rfl⟩
            case round =>
              obtain ⟨c, hc, rfl, rfl⟩ := hrel
              by_cases hlt2 : c < 1024
              · have b2 : (0 : Int) ≤ (c : Int) := by omega
                have b3 : (c : Int) < 1024 := by omega
                have k4 := E2.out c hlt2
                have k5 := E3.out c hlt2
                have wf : IntKind.u64.wrap (f c) = f c := by have := HF2.out k hlt f HG2.out c hlt2; rw [IntKind.wrap_u64]; omega
                clear hc hk
                go_wp2
                go_roundw
                case rel => exact ⟨c + 1, by omega, by go_num, trivial⟩
                case measure => simp [intOf]; omega
              · have b4 : (1024 : Int) ≤ (c : Int) := by omega
                go_wp2
                go_roundw
                case rel => exact ⟨k + 1, by omega, by go_num, trivial⟩
                case measure => simp [intOf]; omega
      · rcases hS2.row k hlt with ⟨h2, g2⟩ | ⟨p2, o2, o, h2, g2, e2⟩
        · rw [g1, g2] at hg
          rcases hSL.row k hlt with ⟨h3, g3⟩ | ⟨p3, o3, f, h3, g3, e3⟩
          · rw [hg] at g3; cases g3
          · obtain rfl : f = l := by rw [hg] at g3; exact (Option.some.inj g3).symm
            have k1 := (cell_of_row _ _ k _ _ _ hA).trans h1
            have k2 := (cell_of_row _ _ k _ _ _ hB).trans h2
            have k3 := (cell_of_row _ _ k _ _ _ c11).trans h3
            have E1 : Hid (∀ c, c < 1024 → wr.cell? ⟨p1, o1 + c, none⟩ = some (.int .u64 (f c))) := e1
            have E3 : Hid (∀ c, c < 1024 → wr.cell? ⟨p3, o3 + c, none⟩ = some (.int .u64 (f c))) := e3
            clear h1 h2 h3 hA hB c11 hSL hS1 hS2 HG hg g2 g3 e1 e3
            have HG1 : Hid (G1 k = some f) := g1
            clear g1
            go_wp2
            go_loopw [19] (fun i wq => ∃ c : Nat, c ≤ 1024 ∧ i = .int .i64 c ∧ wq = wr) (fun i _ => 1024 - (intOf i).toNat)
            case atStart => exact ⟨0, by omega, rfl, rfl⟩
            case round =>
              obtain ⟨c, hc, rfl, rfl⟩ := hrel
              by_cases hlt2 : c < 1024
              · have b2 : (0 : Int) ≤ (c : Int) := by omega
                have b3 : (c : Int) < 1024 := by omega
                have k4 := E1.out c hlt2
                have k5 := E3.out c hlt2
                have wf : IntKind.u64.wrap (f c) = f c := by have := HF1.out k hlt f HG1.out c hlt2; rw [IntKind.wrap_u64]; omega
                clear hc hk
                go_wp2
                go_roundw
                case rel => exact ⟨c + 1, by omega, by go_num, trivial⟩
                case measure => simp [intOf]; omega
              · have b4 : (1024 : Int) ≤ (c : Int) := by omega
                go_wp2
                go_roundw
                case rel => exact ⟨k + 1, by omega, by go_num, trivial⟩
                case measure => simp [intOf]; omega
        · rw [g1, g2] at hg
          rcases hSL.row k hlt with ⟨h3, g3⟩ | ⟨p3, o3, f, h3, g3, e3⟩
          · rw [hg] at g3; cases g3
          · obtain rfl : f = (fun c => IntKind.u64.wrap (l c + o c)) := by rw [hg] at g3; exact (Option.some.inj g3).symm
            have k1 := (cell_of_row _ _ k _ _ _ hA).trans h1
            have k2 := (cell_of_row _ _ k _ _ _ hB).trans h2
            have k3 := (cell_of_row _ _ k _ _ _ c11).trans h3
            have E1 : Hid (∀ c, c < 1024 → wr.cell? ⟨p1, o1 + c, none⟩ = some (.int .u64 (l c))) := e1
            have E2 : Hid (∀ c, c < 1024 → wr.cell? ⟨p2, o2 + c, none⟩ = some (.int .u64 (o c))) := e2
            have E3 : Hid (∀ c, c < 1024 → wr.cell? ⟨p3, o3 + c, none⟩ = some (.int .u64 (IntKind.u64.wrap (l c + o c)))) := e3
            clear h1 h2 h3 hA hB c11 hSL hS1 hS2 HG hg g3 e1 e2 e3
            have HG1 : Hid (G1 k = some l) := g1
            have HG2 : Hid (G2 k = some o) := g2
            clear g1 g2
            go_wp2
            go_loopw [19] (fun i wq => ∃ c : Nat, c ≤ 1024 ∧ i = .int .i64 c ∧ wq = wr) (fun i _ => 1024 - (intOf i).toNat)
            case atStart => exact ⟨0, by omega, rfl, rfl⟩
            case round =>
              obtain ⟨c, hc, rfl, rfl⟩ := hrel
              by_cases hlt2 : c < 1024
              · have b2 : (0 : Int) ≤ (c : Int) := by omega
                have b3 : (c : Int) < 1024 := by omega
                have k4 := E1.out c hlt2
                have k5 := E2.out c hlt2
                have k6 := E3.out c hlt2
                have wl : IntKind.u64.wrap (l c) = l c := by have := HF1.out k hlt l HG1.out c hlt2; rw [IntKind.wrap_u64]; omega
                clear hc hk
                go_wp2
                go_roundw
                case rel => exact ⟨c + 1, by omega, by go_num, trivial⟩
                case measure => simp [intOf]; omega
              · have b4 : (1024 : Int) ≤ (c : Int) := by omega
                go_wp2
                go_roundw
                case rel => exact ⟨k + 1, by omega, by go_num, trivial⟩
                case measure => simp [intOf]; omega
    · have b5 : (54 : Int) ≤ (k : Int) := by omega
      clear hA hB c11 hSL hS1 hS2 HG
      go_wp2
      go_ret
      exact ⟨rfl, HBe.out⟩

end Go.Proofs.Qxb6601538a
