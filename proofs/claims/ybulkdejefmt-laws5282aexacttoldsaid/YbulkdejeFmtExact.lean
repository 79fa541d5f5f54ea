/-
  The walk of LawS5282AExact (3).
-/
import Derived.Test.YbulkdejeFmtLen
import Derived.Deep.LoopGhost
namespace Go.Proofs.YbulkdejeFmt
open Go.RowKit Go.Extern.Stop Go.Stop Go.Extern

theorem info5 : (Ybaf.prog.info? 5).map (fun i => (i.zero, i.size, i.bytes)) = some (some (.int .u8 0), 1, 1) := by kernel_rfl

/-- The array's own box lies in the first new block. -/
structure Bx (w W : World) (x0 x1 x2 x3 : Int) : Prop where
  bel : Below w.heap.size w W
  gs : w.heap.size < W.heap.size
  c0 : W.cell? ⟨w.heap.size, 0, none⟩ = some (.int .u8 x0)
  c1 : W.cell? ⟨w.heap.size, 1, none⟩ = some (.int .u8 x1)
  c2 : W.cell? ⟨w.heap.size, 2, none⟩ = some (.int .u8 x2)
  c3 : W.cell? ⟨w.heap.size, 3, none⟩ = some (.int .u8 x3)
theorem Bx.start (w : World) (x0 x1 x2 x3 : Int) : Bx w (w.alloc (.cells #[.int .u8 x0, .int .u8 x1, .int .u8 x2, .int .u8 x3] 22)) x0 x1 x2 x3 :=
  ⟨(Below.refl _ _).alloc (Nat.le_refl _) _, by simp, by go_simp, by go_simp, by go_simp, by go_simp⟩
theorem Bx.grown {w W W' : World} {x0 x1 x2 x3 : Int} {row : Option Nat} (h : Bx w W x0 x1 x2 x3) (hg : W.grownBy W' row) (hr : row = none ∨ ∃ g, row = some g ∧ w.heap.size < g) : Bx w W' x0 x1 x2 x3 := by
  have hne : some w.heap.size ≠ row := by
    rcases hr with e | ⟨g, e, hl⟩
    · rw [e]; simp
    · rw [e]; intro e2; cases e2; omega
  refine ⟨h.bel.grown hg (Nat.le_of_lt h.gs) ?_, Nat.lt_of_lt_of_le h.gs hg.size, hg.cell h.c0 hne, hg.cell h.c1 hne, hg.cell h.c2 hne, hg.cell h.c3 hne⟩
  intro k hk
  rcases hr with e | ⟨g, e, hl⟩
  · rw [e] at hk; cases hk
  · rw [e] at hk; cases hk; omega
theorem Bx.below {w W W' : World} {x0 x1 x2 x3 : Int} (h : Bx w W x0 x1 x2 x3) (hb : Below W.heap.size W W') : Bx w W' x0 x1 x2 x3 :=
  ⟨h.bel.trans (hb.mono (Nat.le_of_lt h.gs)), Nat.lt_of_lt_of_le h.gs hb.size, (hb.cell (p := ⟨w.heap.size, 0, none⟩) h.gs).trans h.c0, (hb.cell (p := ⟨w.heap.size, 1, none⟩) h.gs).trans h.c1,
    (hb.cell (p := ⟨w.heap.size, 2, none⟩) h.gs).trans h.c2, (hb.cell (p := ⟨w.heap.size, 3, none⟩) h.gs).trans h.c3⟩
theorem Bx.alloc {w W : World} {x0 x1 x2 x3 : Int} (h : Bx w W x0 x1 x2 x3) (o : Obj) : Bx w (W.alloc o) x0 x1 x2 x3 := h.below ((Below.refl _ _).alloc (Nat.le_refl _) o)

theorem cell_four_new (w : World) (a b c d : Value) (t : TypeId) : ∀ j u, [a, b, c, d][j]? = some u → (w.alloc (.cells #[a, b, c, d] t)).cell? ((⟨w.heap.size, 0, none⟩ : Addr).add j) = some u := by
  intro j u hj
  match j, hj with
  | 0, hj => simp at hj; subst hj; simp [Addr.add]
  | 1, hj => simp at hj; subst hj; simp [Addr.add]
  | 2, hj => simp at hj; subst hj; simp [Addr.add]
  | 3, hj => simp at hj; subst hj; simp [Addr.add]
  | j + 4, hj => simp at hj

theorem tail_cells {w W : World} {a : Option Addr} {n : Nat} {zs : List Int} (h : ∀ k, k < n → ∃ b off, a = some ⟨b, off, none⟩ ∧ b < w.heap.size ∧ w.cell? ⟨b, off + k, none⟩ = some (.int .u8 (zs.getD k 0))) (hb : Below w.heap.size w W) (hz : n ≤ zs.length) :
    ∀ ad, a = some ad → ∀ j u, ((zs.take n).map (Value.int .u8))[j]? = some u → W.cell? (ad.add j) = some u := by
  intro ad ha j u hj
  have hjn : j < n := by
    have := (List.getElem?_eq_some_iff.1 hj).1
    simp at this
    omega
  obtain ⟨b, off, e, hbl, hc⟩ := h j hjn
  rw [ha] at e
  cases e
  rw [Addr.add_lit]
  refine ((hb.cell (p := ⟨b, off + j, none⟩) hbl).trans hc).trans ?_
  rw [← hj]
  simp [List.getD, hjn, show j < zs.length from by omega]

set_option maxRecDepth 100000 in
set_option maxHeartbeats 2000000 in
theorem ex_walk (F : Interp) (x0 x1 x2 x3 : Int) (a : Option Addr) (n c : Nat) (zs : List Int) (w : World) (hF : F.answers w.tape) (hn : n ≤ 1024) (hz : n ≤ zs.length)
    (h0 : 0 ≤ x0 ∧ x0 ≤ 255) (h1 : 0 ≤ x1 ∧ x1 ≤ 255) (h2 : 0 ≤ x2 ∧ x2 ≤ 255) (h3 : 0 ≤ x3 ∧ x3 ≤ 255) (hnil : a = none → n = 0 ∧ c = 0)
    (hcell : ∀ k, k < n → ∃ b off, a = some ⟨b, off, none⟩ ∧ b < w.heap.size ∧ w.cell? ⟨b, off + k, none⟩ = some (.int .u8 (zs.getD k 0))) :
    Calls Ybaf.prog 3 #[.agg #[.int .u8 x0, .int .u8 x1, .int .u8 x2, .int .u8 x3], .slice a n c] w fun e w' => e = .returned (.bool true) ∧ Below w.heap.size w w' := by
  have HC : Hid (∀ k, k < n → ∃ b off, a = some ⟨b, off, none⟩ ∧ b < w.heap.size ∧ w.cell? ⟨b, off + k, none⟩ = some (.int .u8 (zs.getD k 0))) := hcell
  have HF : Hid (F.answers w.tape) := hF
  have HNI : Hid (a = none → n = 0 ∧ c = 0) := hnil
  clear hcell hF hnil
  obtain ⟨i0, hi, hz0, hz1, hz2⟩ := info_parts info5
  have hszw : (w.alloc (.cells #[.int .u8 x0, .int .u8 x1, .int .u8 x2, .int .u8 x3] 22)).heap.size = w.heap.size + 1 := by simp
  have HSZ : Hid ((w.alloc (.cells #[.int .u8 x0, .int .u8 x1, .int .u8 x2, .int .u8 x3] 22)).heap.size = w.heap.size + 1) := hszw
  clear hszw
  have hN1 : bits .or .u32 (x0 * 16777216) (x1 * 65536) = x0 * 16777216 + x1 * 65536 := bits_join .u32 32 (by decide) wraps_u32 24 _ _ (by omega) (by omega) (by omega) (by omega) (by omega) (by omega)
  have hN2 : bits .or .u32 (x0 * 16777216 + x1 * 65536) (x2 * 256) = x0 * 16777216 + x1 * 65536 + x2 * 256 := bits_join .u32 32 (by decide) wraps_u32 16 _ _ (by omega) (by omega) (by omega) (by omega) (by omega) (by omega)
  have hN3 : bits .or .u32 (x0 * 16777216 + x1 * 65536 + x2 * 256) x3 = x0 * 16777216 + x1 * 65536 + x2 * 256 + x3 := bits_join .u32 32 (by decide) wraps_u32 8 _ _ (by omega) (by omega) (by omega) (by omega) (by omega) (by omega)
  obtain ⟨N, hN4⟩ : ∃ N, x0 * 16777216 + x1 * 65536 + x2 * 256 + x3 = N := ⟨_, rfl⟩
  have HN : Hid (x3 + x2 * 256 + x1 * 65536 + x0 * 16777216 = N) := by show _ = _; omega
  have hNb : 0 ≤ N ∧ N < 4294967296 := by omega
  go_enter Ybaf.func3, Ybaf.ntmps3
  go_wp2_with (first
    | (at_make; refine wpList_make_own _ rfl _ _ 23 rfl (w.heap.size + 1) 5 i0 (.int .u8 0) 1 Ybaf.underlying23 hi hz0 hz1 _ _ _ (4 + n) rfl rfl (by omega) (by rw [hz2]; omega) (by unfold maxLen; omega) (by simp) ?_; intro w1 hown1 hgrow1; rw [HSZ.out] at hown1; have bx1 := (Bx.start w x0 x1 x2 x3).grown hgrow1 (Or.inl rfl); have q0 := bx1.c0; have q1 := bx1.c1; have q2 := bx1.c2; have q3 := bx1.c3)
    | (at_builtin; refine wpList_append_fits _ rfl (.tmp 20) (.tmp 29) 23 rfl (w.heap.size + 1) 5 i0 1 Ybaf.underlying23 hi hz1 (w.heap.size + 1) 0 (4 + n) _ rfl (hown1.alloc _) ⟨w1.heap.size, 0, none⟩ 4 4 [.int .u8 x0, .int .u8 x1, .int .u8 x2, .int .u8 x3] rfl rfl (cell_four_new _ _ _ _ _ _) (by intro u hu; simp at hu; rcases hu with rfl | rfl | rfl | rfl <;> rfl) (by omega) ?_; intro w2 hown2 hgrow2; simp only [Nat.zero_add, List.nil_append] at hown2; have bx2 := (bx1.alloc _).grown hgrow2 (Or.inr ⟨_, rfl, Nat.lt_succ_self _⟩))
    | (at_builtin; refine wpList_append_fits_any _ rfl (.tmp 31) (.tmp 32) 23 rfl (w.heap.size + 1) 5 i0 1 Ybaf.underlying23 hi hz1 (w.heap.size + 1) 4 (4 + n) _ rfl hown2 _ n _ ((zs.take n).map (Value.int .u8)) rfl (by simp; omega) HNI.out (tail_cells HC.out bx2.bel hz) (ints_oneCell _ _) (by omega) ?_; intro w3 hown3 hgrow3; have bx3 := bx2.grown hgrow3 (Or.inr ⟨_, rfl, Nat.lt_succ_self _⟩); have r0 := bx3.c0; have r1 := bx3.c1; have r2 := bx3.c2; have r3 := bx3.c3))
  have hc0 : w3.cell? ⟨w.heap.size + 1, 0, none⟩ = some (.int .u8 x0) := by rw [hown3.cellAt 0 (by omega)]; simp
  have hc1 : w3.cell? ⟨w.heap.size + 1, 0 + 1, none⟩ = some (.int .u8 x1) := by rw [hown3.cellAt (0 + 1) (by omega)]; simp
  have hc2 : w3.cell? ⟨w.heap.size + 1, 0 + 2, none⟩ = some (.int .u8 x2) := by rw [hown3.cellAt (0 + 2) (by omega)]; simp
  have hc3 : w3.cell? ⟨w.heap.size + 1, 0 + 3, none⟩ = some (.int .u8 x3) := by rw [hown3.cellAt (0 + 3) (by omega)]; simp
  have hg3 : w.heap.size + 1 < w3.heap.size := (hown3.lt (w.heap.size + 1) rfl).2
  have hF3 : F.answers w3.tape := by rw [bx3.bel.tape]; exact HF.out
  have HFour : Hid (∀ j, j < 4 → ∃ y, w3.cell? ⟨w.heap.size + 1, j, none⟩ = some (.int .u8 y) ∧ w3.cell? ⟨w.heap.size, j, none⟩ = some (.int .u8 y)) := by
    intro j hj
    rcases (show j = 0 ∨ j = 1 ∨ j = 2 ∨ j = 3 from by omega) with rfl | rfl | rfl | rfl
    · exact ⟨x0, hc0, r0⟩
    · exact ⟨x1, hc1, r1⟩
    · exact ⟨x2, hc2, r2⟩
    · exact ⟨x3, hc3, r3⟩
  have HTail : Hid (∀ j, j < n → ∃ b off y, a = some ⟨b, off, none⟩ ∧ b < w3.heap.size ∧ w3.cell? ⟨b, off + j, none⟩ = some (.int .u8 y) ∧ w3.cell? ⟨w.heap.size + 1, 4 + j, none⟩ = some (.int .u8 y)) := by
    intro j hj
    obtain ⟨b, off, e, hbl, hcc⟩ := HC.out j hj
    refine ⟨b, off, zs.getD j 0, e, Nat.lt_of_lt_of_le hbl bx3.bel.size, (bx3.bel.cell (p := ⟨b, off + j, none⟩) hbl).trans hcc, ?_⟩
    rw [hown3.cellAt (4 + j) (by omega), List.getElem?_append_right (by simp)]
    simp [List.getD, hj, show j < zs.length from by omega]
  have HB3 : Hid (Below w.heap.size w w3) := bx3.bel
  have HG3 : Hid (w.heap.size < w3.heap.size) := bx3.gs
  clear hown1 hown2 hown3 hgrow1 hgrow2 hgrow3 bx1 bx2 bx3 q0 q1 q2 q3 r0 r1 r2 r3 HC hN1 hN2 hN3 hN4 HSZ HNI
  by_cases hsm : N ≤ 1048576
  case' pos =>
    have hc := len_ok (w.heap.size + 1) 0 (4 + n) (4 + n) x0 x1 x2 x3 N w3 (by omega) hg3 hc0 hc1 hc2 hc3 h0 h1 h2 h3 HN.out hsm
    refine hc.mono ?_
    rintro e w4 ⟨rfl, hb4⟩
    clear hc hF3 hc0 hc1 hc2 hc3
    go_wp2_with (go_at_call 6; refine (model_ok _ _ hNb.1 hsm).mono ?_; rintro e w' ⟨rfl, hw⟩; obtain rfl := hw.symm; clear hw)
  case' neg =>
    have hc := len_no F (w.heap.size + 1) 0 (4 + n) (4 + n) x0 x1 x2 x3 N w3 hF3 (by omega) hg3 hc0 hc1 hc2 hc3 h0 h1 h2 h3 HN.out (by omega)
    refine hc.mono ?_
    rintro e w4 ⟨ae, rfl, hb4⟩
    clear hc hF3 hc0 hc1 hc2 hc3
    go_wp2_with (go_at_call 6; refine (model_no _ _ (by omega)).mono ?_; rintro e w' ⟨rfl, hw⟩; obtain rfl := hw.symm; clear hw)
  all_goals
    have HB4 : Hid (Below w.heap.size w w4) := HB3.out.trans (hb4.mono HB3.out.size)
    have HB34 : Hid (Below w3.heap.size w3 w4) := hb4
    clear hb4
    go_loopg [11] 4 (fun q vi wr => ∃ j : Nat, j ≤ 4 ∧ q = 4 - j ∧ vi = .int .i64 (j : Int) ∧ Below w4.heap.size w4 wr)
    case atStart => exact ⟨0, Nat.zero_le _, rfl, rfl, Below.refl _ _⟩
    case round =>
      obtain ⟨j, hj, rfl, rfl, hb5⟩ := hrel
      have hb35 : Below w3.heap.size w3 wr := HB34.out.trans (hb5.mono HB34.out.size)
      by_cases hlt : j < 4
      · obtain ⟨y, g1, g2⟩ := HFour.out j hlt
        have d1 := (hb35.cell (p := ⟨w.heap.size + 1, j, none⟩) hg3).trans g1
        have d2 := (hb35.cell (p := ⟨w.heap.size, j, none⟩) HG3.out).trans g2
        clear g1 g2
        have hyy : (y != y) = false := by simp
        have e1 : (j : Int) < ((4 + n : Nat) : Int) := by omega
        have e2 : (j : Int) < 4 := by omega
        have e3 : j < 4 + n := by omega
        go_wp2_with fail
        go_quiet (fail)
        go_wp2_with fail
        go_roundg (4 - (j + 1))
        case measure => omega
        case rel => exact ⟨j + 1, by omega, rfl, by go_num, below_drewN hb5 _⟩
      · have HB35 : Hid (Below w3.heap.size w3 wr) := hb35
        have HBW : Hid (Below w.heap.size w wr) := HB4.out.trans (hb5.mono HB4.out.size)
        rename World => w5
        clear hb5 hb35
        go_wp2_with fail
        go_loopg [12] n (fun q vi wr => ∃ j : Nat, j ≤ n ∧ q = n - j ∧ vi = .int .i64 (j : Int) ∧ Below w5.heap.size w5 wr)
        case atStart => exact ⟨0, Nat.zero_le _, rfl, rfl, Below.refl _ _⟩
        case round =>
          obtain ⟨i, hi', rfl, rfl, hb6⟩ := hrel
          by_cases hlt2 : i < n
          · obtain ⟨b, off, y, ha, hbl, g1, g2⟩ := HTail.out i hlt2
            subst ha
            have hb36 : Below w3.heap.size w3 wr := HB35.out.trans (hb6.mono HB35.out.size)
            have d1 := (hb36.cell (p := ⟨b, off + i, none⟩) hbl).trans g1
            have d2 := (hb36.cell (p := ⟨w.heap.size + 1, 4 + i, none⟩) hg3).trans g2
            clear g1 g2 hb36
            have hyy : (y != y) = false := by simp
            have e0 : IntKind.i64.wrap (4 + (i : Int)) = ((4 + i : Nat) : Int) := by rw [IntKind.wrap_i64]; omega
            have e1 : 4 + i < 4 + n := by omega
            have e2 : (i : Int) < (n : Int) := by omega
            go_wp2_with fail
            go_quiet (fail)
            go_wp2_with fail
            go_roundg (n - (i + 1))
            case measure => omega
            case rel => exact ⟨i + 1, by omega, rfl, by go_num, below_drewN hb6 _⟩
          · have HFIN : Hid (Below w.heap.size w wr) := HBW.out.trans (hb6.mono HBW.out.size)
            clear hb6
            go_wp2_with fail
            go_ret
            exact ⟨rfl, HFIN.out⟩
end Go.Proofs.YbulkdejeFmt
