/-
  Walks: lastTwo (15), slices.Clone at samples (9).
-/
import Derived.Test.YbulkdehaRateMax
import Derived.RegionTactic
import Derived.BigRegion
namespace Go.Proofs.Ybulkdeha
open Go.RowKit

/-- The kit's walk has no law for the store of a float. -/
theorem run_store_float {P : Program} {w : World} {a : Addr} {m : Mode} (k : FloatKind) (b : Nat) : (store a (.float k b) m).run P w = stored P w a (.float k b) m := run_store P w a _ m rfl
attribute [local go_sem] run_store_float

theorem two_boxes (w w1 : World) (x0 x1 y0 y1 : Value) (hb : Below ((w.alloc (.cells #[x0, x1] 28)).alloc (.cells #[y0, y1] 28)).heap.size ((w.alloc (.cells #[x0, x1] 28)).alloc (.cells #[y0, y1] 28)) w1) :
    w1.cell? ⟨w.heap.size, 0, none⟩ = some x0 ∧ w1.cell? ⟨w.heap.size, 1, none⟩ = some x1 ∧ w1.cell? ⟨w.heap.size + 1, 0, none⟩ = some y0 ∧ w1.cell? ⟨w.heap.size + 1, 1, none⟩ = some y1 ∧
    (∀ j, w1.frozen? ⟨w.heap.size, j, none⟩ = false) ∧ (∀ j, w1.frozen? ⟨w.heap.size + 1, j, none⟩ = false) ∧ w.heap.size + 1 < w1.heap.size ∧ Below w.heap.size w w1 := by
  have hs : ((w.alloc (.cells #[x0, x1] 28)).alloc (.cells #[y0, y1] 28)).heap.size = w.heap.size + 1 + 1 := by simp
  have h0 : w.heap.size < ((w.alloc (.cells #[x0, x1] 28)).alloc (.cells #[y0, y1] 28)).heap.size := by omega
  have h1 : w.heap.size + 1 < ((w.alloc (.cells #[x0, x1] 28)).alloc (.cells #[y0, y1] 28)).heap.size := by omega
  have hsz := hb.size
  refine ⟨(hb.cell (p := ⟨w.heap.size, 0, none⟩) h0).trans ?_, (hb.cell (p := ⟨w.heap.size, 1, none⟩) h0).trans ?_, (hb.cell (p := ⟨w.heap.size + 1, 0, none⟩) h1).trans ?_, (hb.cell (p := ⟨w.heap.size + 1, 1, none⟩) h1).trans ?_,
    fun j => (hb.frozen (p := ⟨w.heap.size, j, none⟩) h0).trans ?_, fun j => (hb.frozen (p := ⟨w.heap.size + 1, j, none⟩) h1).trans ?_, by omega, (below2 w _ _).trans (hb.mono (by omega))⟩
  all_goals go_simp

/-- What lastTwo gives. -/
def LtEnd (xs : List Smp) (at_ win : Int) (e : Ending) : Prop :=
  ((wbounds xs at_ win).2 < (wbounds xs at_ win).1 + 2 ∧ e = .returned (.tuple #[.agg #[.int .i64 0, .float .f64 0], .agg #[.int .i64 0, .float .f64 0], .bool false])) ∨
  ((wbounds xs at_ win).1 + 2 ≤ (wbounds xs at_ win).2 ∧ e = .returned (.tuple #[.agg #[.int .i64 (xs.getD ((wbounds xs at_ win).2 - 2) (0, 0)).1, .float .f64 (xs.getD ((wbounds xs at_ win).2 - 2) (0, 0)).2], .agg #[.int .i64 (xs.getD ((wbounds xs at_ win).2 - 1) (0, 0)).1, .float .f64 (xs.getD ((wbounds xs at_ win).2 - 1) (0, 0)).2], .bool true]))

set_option maxRecDepth 100000 in
set_option maxHeartbeats 1000000 in
theorem lasttwo_any (a : Option Addr) (n c : Nat) (xs : List Smp) (at_ win : Int) (w : World) (hl : Lies w a xs) (hn : xs.length = n) (hn2 : n ≤ 1024)
    (ha1 : -9223372036854775808 ≤ at_) (ha2 : at_ ≤ 9223372036854775807) (hw1 : -9223372036854775808 ≤ win) (hw2 : win ≤ 9223372036854775807) :
    Calls Yba.prog 15 #[.slice a n c, .int .i64 at_, .int .i64 win] w fun e w' => LtEnd xs at_ win e ∧ Below w.heap.size w w' := by
  have hb2 : Below w.heap.size w ((w.alloc (.cells #[.int .i64 0, .float .f64 0] 28)).alloc (.cells #[.int .i64 0, .float .f64 0] 28)) := below2 w _ _
  have hwb := bounds_any a n c xs at_ win _ (hl.below hb2) hn hn2 ha1 ha2 hw1 hw2
  have hle := wb_le xs at_ win
  unfold LtEnd
  generalize wbounds xs at_ win = wb at *
  obtain ⟨f, l⟩ := wb
  have hle2 : f ≤ l ∧ l ≤ 1024 := ⟨hle.1, by have h9 : l ≤ xs.length := hle.2; omega⟩
  simp only at *
  have HB2 : Hid (Below w.heap.size w ((w.alloc (.cells #[.int .i64 0, .float .f64 0] 28)).alloc (.cells #[.int .i64 0, .float .f64 0] 28))) := hb2
  clear hb2
  by_cases hfew : l < f + 2
  · go_enter Yba.func15, Yba.ntmps15
    go_wp2_with fail
    refine hwb.mono ?_
    rintro e w1 ⟨rfl, hb⟩
    clear hwb hl hn
    obtain ⟨k0, k1, k2, k3, f0, f1, hsz, hbel⟩ := two_boxes w w1 _ _ _ _ hb
    clear hb HB2
    go_wp2_with fail
    exact bodyPost_ret (v := .tuple #[.agg #[.int .i64 0, .float .f64 0], .agg #[.int .i64 0, .float .f64 0], .bool false]) (by simp [results, Yba.results15, go_sem, k0, k1, k2, k3]) rfl ⟨Or.inl ⟨hfew, rfl⟩, ((((hbel.setCell (p := ⟨w.heap.size, 0, none⟩) (Nat.le_refl _) _).setCell (p := ⟨w.heap.size, 1, none⟩) (Nat.le_refl _) _).setCell (p := ⟨w.heap.size + 1, 0, none⟩) (Nat.le_succ _) _).setCell (p := ⟨w.heap.size + 1, 1, none⟩) (Nat.le_succ _) _)⟩
  · rcases hl with he | ⟨b, o, rfl, hbl, hcell⟩
    · rw [he] at hle; simp at hle; omega
    · have k1' := hcell (l - 2) (by omega)
      have k2' := hcell (l - 1) (by omega)
      have hx1 : xs.getD (l - 2) (0, 0) = xs[l - 2] := by simp [List.getD, show l - 2 < xs.length from by omega]
      have hx2 : xs.getD (l - 1) (0, 0) = xs[l - 1] := by simp [List.getD, show l - 1 < xs.length from by omega]
      rw [hx1, hx2]
      generalize xs[l - 2] = P1 at *
      generalize xs[l - 1] = P2 at *
      obtain ⟨T1, V1⟩ := P1
      obtain ⟨T2, V2⟩ := P2
      clear hx1 hx2 hcell
      have HN : Hid (l ≤ n) := by have := hle.2; show l ≤ n; omega
      clear hn
      go_enter Yba.func15, Yba.ntmps15
      go_wp2_with fail
      refine hwb.mono ?_
      rintro e w1 ⟨rfl, hb⟩
      clear hwb
      obtain ⟨k0, k1, k2, k3, f0, f1, hsz, hbel⟩ := two_boxes w w1 _ _ _ _ hb
      clear hb HB2
      have d1 := (hbel.cell (p := ⟨b, o + (l - 2) * 2, none⟩) hbl).trans k1'.1
      have d2 := (hbel.cell (p := ⟨b, o + (l - 2) * 2 + 1, none⟩) hbl).trans k1'.2
      have d3 := (hbel.cell (p := ⟨b, o + (l - 1) * 2, none⟩) hbl).trans k2'.1
      have d4 := (hbel.cell (p := ⟨b, o + (l - 1) * 2 + 1, none⟩) hbl).trans k2'.2
      clear k1' k2'
      have hln := HN.out
      have e5 : IntKind.i64.wrap ((l : Int) - 2) = ((l - 2 : Nat) : Int) := by rw [IntKind.wrap_i64]; omega
      have e6 : IntKind.i64.wrap ((l : Int) - 1) = ((l - 1 : Nat) : Int) := by rw [IntKind.wrap_i64]; omega
      have e7 : l - 2 < n := by omega
      have e8 : l - 1 < n := by omega
      have hbw : b ≠ w.heap.size := by omega
      have hbw1 : b ≠ w.heap.size + 1 := by omega
      go_wp2_with fail
      go_region
      go_wp2_with fail
      exact bodyPost_ret (v := .tuple #[.agg #[.int .i64 T1, .float .f64 V1], .agg #[.int .i64 T2, .float .f64 V2], .bool true]) (by simp [results, Yba.results15, go_sem, k0, k1, k2, k3]) rfl ⟨Or.inr ⟨by omega, rfl⟩, (((((hbel.setCell (p := ⟨w.heap.size, 0, none⟩) (Nat.le_refl _) _).setCell (p := ⟨w.heap.size, 1, none⟩) (Nat.le_refl _) _).setCell (p := ⟨w.heap.size + 1, 0, none⟩) (Nat.le_succ _) _).setCell (p := ⟨w.heap.size + 1, 1, none⟩) (Nat.le_succ _) _)).drew⟩

theorem Yba.info28 : (Yba.prog.info? 28).map (fun i => (i.zero, i.size, i.bytes)) = some (some (.agg #[.int .i64 0, .float .f64 0]), 2, 16) := by kernel_rfl

/-- the cells of samples -/
def smc (xs : List Smp) : List Value := xs.flatMap fun x => [.int .i64 x.1, .float .f64 x.2]
theorem smc_length : ∀ xs : List Smp, (smc xs).length = xs.length * 2
  | [] => rfl
  | x :: xs => by
    have := smc_length xs
    unfold smc at *
    simp only [List.flatMap_cons, List.length_append, List.length_cons, List.length_nil]
    omega
theorem smc_at : ∀ (xs : List Smp) (m : Nat) (h : m < xs.length), (smc xs)[m * 2]? = some (.int .i64 (xs[m]).1) ∧ (smc xs)[m * 2 + 1]? = some (.float .f64 (xs[m]).2)
  | [], m, h => by simp at h
  | x :: xs, 0, _ => by simp [smc]
  | x :: xs, m + 1, h => by
    have := smc_at xs m (by simpa using h)
    unfold smc at *
    simp only [List.flatMap_cons, show (m + 1) * 2 = m * 2 + 1 + 1 from by omega]
    simpa using this
theorem smc_one_cell (xs : List Smp) : ∀ u ∈ smc xs, u.oneCell' = true := by
  intro u hu
  unfold smc at hu
  rw [List.mem_flatMap] at hu
  obtain ⟨x, _, hx⟩ := hu
  simp at hx
  rcases hx with rfl | rfl <;> rfl

theorem lies_cells {w : World} {ad : Addr} {xs : List Smp} (h : Lies w (some ad) xs) : ∀ j u, (smc xs)[j]? = some u → w.cell? (ad.add j) = some u := by
  intro j u hj
  have hlt : j < xs.length * 2 := by
    have := (List.getElem?_eq_some_iff.1 hj).1
    rwa [smc_length] at this
  rcases h with rfl | ⟨b, o, e, _, hc⟩
  · simp at hlt
  · cases e
    have h1 := hc (j / 2) (by omega)
    have h2 := smc_at xs (j / 2) (by omega)
    rw [Addr.add_lit]
    rcases (show j % 2 = 0 ∨ j % 2 = 1 from by omega) with h | h
    · rw [show j / 2 * 2 = j from by omega] at h1 h2
      rw [h1.1, ← h2.1]; exact hj
    · have e1 : o + j / 2 * 2 + 1 = o + j := by omega
      have e2 : j / 2 * 2 + 1 = j := by omega
      rw [e1] at h1
      rw [e2] at h2
      rw [h1.2, ← h2.2]; exact hj

theorem lies_of_own {w : World} {B n : Nat} {v : Value} {xs : List Smp} (hn : xs.length = n) (h : w.ownsRow B 28 2 v n (smc xs)) : ∃ a c, v = .slice a n c ∧ Lies w a xs := by
  rcases h.2 with ⟨h1, h2⟩ | ⟨g, cap, cur, e1, _, hg, _⟩
  · refine ⟨none, 0, ?_, Or.inl (List.eq_nil_of_length_eq_zero (by omega))⟩
    rw [h1, h2]
  · refine ⟨some ⟨g, 0, none⟩, cap, e1, Or.inr ⟨g, 0, rfl, ?_, fun i hi => ?_⟩⟩
    · rcases Nat.lt_or_ge g w.heap.size with h' | h'
      · exact h'
      · rw [Array.getElem?_eq_none h'] at hg; cases hg
    · subst e1
      have h2 := smc_at xs i hi
      rw [Nat.zero_add, h.cellAt (i * 2) (by omega), h.cellAt (i * 2 + 1) (by omega)]
      exact h2

set_option maxHeartbeats 400000 in
theorem clone_any (a : Option Addr) (n c : Nat) (xs : List Smp) (w : World) (hl : Lies w a xs) (hn : xs.length = n) (hn2 : n ≤ 1024) (hnil : a = none → n = 0) :
    Calls Yba.prog 9 #[.slice a n c] w fun e w' => ∃ a' c', e = .returned (.slice a' n c') ∧ Lies w' a' xs ∧ Below w.heap.size w w' := by
  have hq := fun (w : World) => Lib.run_eql_slice_nil (P := Yba.prog) w 24 28 a n c 0 0 Yba.underlying24
  cases a with
  | none =>
    obtain rfl := hnil rfl
    have hx : xs = [] := List.eq_nil_of_length_eq_zero hn
    clear hl hn hnil
    go_enter Yba.func9, Yba.ntmps9
    go_wp2
    go_ret
    exact ⟨none, 0, rfl, Or.inl hx, Below.refl _ _⟩
  | some ad =>
    obtain ⟨i0, hin, hz0, hz1, hz2⟩ := info_parts Yba.info28
    have HL : Hid (Lies w (some ad) xs) := hl
    have HN : Hid (xs.length = n) := hn
    clear hl hn hnil
    have hb0 : Below w.heap.size w (w.alloc (.cells #[] 28)) := (Below.refl _ _).alloc (Nat.le_refl _) _
    have HB : Hid (Below w.heap.size w (w.alloc (.cells #[] 28))) := hb0
    clear hb0
    go_enter Yba.func9, Yba.ntmps9
    go_wp2_with (at_builtin; refine wpList_append_own _ rfl _ _ 24 rfl w.heap.size 28 i0 _ 2 16 Yba.underlying24 hin hz0 hz1 hz2 rfl (by decide) _ 0 _ rfl (World.ownsRow_made w #[] 0 (Nat.le_refl _) (by decide) rfl) ad n c (smc xs) rfl (by rw [smc_length, HN.out]) (lies_cells (HL.out.below HB.out)) (smc_one_cell xs) (by unfold maxLen; omega) (by omega) (by simp) ?_; intro v4 w4 hown4 hgrow4 _; simp only [Nat.zero_add, List.nil_append] at hown4; obtain ⟨a4, c4, hv4, hl4⟩ := lies_of_own HN.out hown4; subst hv4)
    go_ret
    refine ⟨a4, c4, rfl, hl4, HB.out.grown hgrow4 (by simp) ?_⟩
    intro k hk
    cases hk
    exact Nat.le_refl _
end Go.Proofs.Ybulkdeha
