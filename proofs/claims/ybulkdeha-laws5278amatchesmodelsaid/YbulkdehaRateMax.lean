/-
  Walks: extreme (20), RateMax (10).
-/
import Derived.Test.YbulkdehaSlide
namespace Go.Proofs.Ybulkdeha
open Go.RowKit

set_option maxHeartbeats 400000 in
theorem extreme_few (g : Nat) (a : Option Addr) (n c fst lst : Nat) (at_ win : Int) (w : World) (h : lst < fst + 2) (h1 : fst ≤ 1024) (h2 : lst ≤ 1024) :
    Calls Yba.prog 20 #[.pointer (some ⟨g, 0, none⟩), .slice a n c, .int .i64 (fst : Int), .int .i64 (lst : Int), .int .i64 at_, .int .i64 win] w fun e w' => e = .returned (.tuple #[.float .f64 0, .bool false]) ∧ w' = w := by
  go_enter Yba.func20, Yba.ntmps20
  go_wp2
  go_ret2
  exact ⟨rfl, rfl⟩

set_option maxHeartbeats 400000 in
theorem extreme_many (g : Nat) (b o c : Nat) (xs : List Smp) (fst lst : Nat) (at_ win : Int) (w : World) (hbg : b < g) (hgw : g < w.heap.size) (h : fst + 2 ≤ lst) (hhn : lst ≤ xs.length) (hn2 : xs.length ≤ 1024)
    (hcell : ∀ i, i < xs.length → w.cell? ⟨b, o + i * 2, none⟩ = some (.int .i64 (xs.getD i (0, 0)).1) ∧ w.cell? ⟨b, o + i * 2 + 1, none⟩ = some (.float .f64 (xs.getD i (0, 0)).2))
    (hc0 : w.cell? ⟨g, 0, none⟩ = some (.bool true)) (hc1 : w.cell? ⟨g, 1, none⟩ = some (.int .i64 0)) (hc2 : w.cell? ⟨g, 2, none⟩ = some (.int .i64 0)) (hc3 : w.cell? ⟨g, 3, none⟩ = some (.slice none 0 0))
    (hf : ∀ j, w.frozen? ⟨g, j, none⟩ = false) :
    Calls Yba.prog 20 #[.pointer (some ⟨g, 0, none⟩), .slice (some ⟨b, o, none⟩) xs.length c, .int .i64 (fst : Int), .int .i64 (lst : Int), .int .i64 at_, .int .i64 win] w fun e w' => ∃ v, e = .returned (.tuple #[.float .f64 v, .bool true]) ∧ Best (ros xs (fst + 1) lst) v ∧ Below g w w' := by
  have hs := slide_any g b o c xs (fst + 1) lst w hbg hgw (by omega) (by omega) hhn hn2 hcell hc0 hc1 hc2 hc3 hf
  rw [show (((fst + 1 : Nat)) : Int) = (fst : Int) + 1 from by omega] at hs
  clear hcell hc0 hc1 hc2 hc3 hf
  go_enter Yba.func20, Yba.ntmps20
  go_wp2_with fail
  refine hs.mono ?_
  rintro e w' ⟨rfl, gl, n, cap, v, k1, k2, hbest, hbel⟩
  have HB : Hid (Best (ros xs (fst + 1) lst) v ∧ Below g w w') := ⟨hbest, hbel⟩
  clear hbest hbel hs
  go_wp2
  go_ret2
  exact ⟨v, rfl, HB.out⟩

theorem bsGo_le (xs : List Smp) (t : Int) : ∀ (f i j : Nat), i ≤ j → bsGo xs t f i j ≤ j
  | 0, i, j, h => h
  | f + 1, i, j, h => by
    rw [bsGo]
    by_cases hlt : i < j
    · rw [if_pos hlt]
      split
      · have := bsGo_le xs t f i ((i + j) / 2) (by omega)
        omega
      · exact bsGo_le xs t f ((i + j) / 2 + 1) j (by omega)
    · rw [if_neg hlt]; exact h
theorem bs_le (xs : List Smp) (t : Int) : bs xs t ≤ xs.length := bsGo_le xs t _ 0 _ (Nat.zero_le _)
theorem wb_le (xs : List Smp) (at_ win : Int) : (wbounds xs at_ win).1 ≤ (wbounds xs at_ win).2 ∧ (wbounds xs at_ win).2 ≤ xs.length := by
  have h := bs_le xs at_
  unfold wbounds
  split
  · exact ⟨Nat.le_refl _, h⟩
  · split
    · exact ⟨Nat.zero_le _, h⟩
    · exact ⟨Nat.min_le_right _ _, h⟩

theorem newp (w : World) : (w.alloc (.cells #[.bool true, .int .i64 0, .int .i64 0, .slice none 0 0] 54)).cell? ⟨w.heap.size, 0, none⟩ = some (.bool true)
    ∧ (w.alloc (.cells #[.bool true, .int .i64 0, .int .i64 0, .slice none 0 0] 54)).cell? ⟨w.heap.size, 1, none⟩ = some (.int .i64 0)
    ∧ (w.alloc (.cells #[.bool true, .int .i64 0, .int .i64 0, .slice none 0 0] 54)).cell? ⟨w.heap.size, 2, none⟩ = some (.int .i64 0)
    ∧ (w.alloc (.cells #[.bool true, .int .i64 0, .int .i64 0, .slice none 0 0] 54)).cell? ⟨w.heap.size, 3, none⟩ = some (.slice none 0 0)
    ∧ ∀ j, (w.alloc (.cells #[.bool true, .int .i64 0, .int .i64 0, .slice none 0 0] 54)).frozen? ⟨w.heap.size, j, none⟩ = false := by
  refine ⟨?_, ?_, ?_, ?_, fun j => ?_⟩ <;> go_simp

/-- What RateMax gives. -/
def RmEnd (xs : List Smp) (at_ win : Int) (e : Ending) : Prop :=
  ((wbounds xs at_ win).2 < (wbounds xs at_ win).1 + 2 ∧ e = .returned (.tuple #[.float .f64 0, .bool false])) ∨
  ((wbounds xs at_ win).1 + 2 ≤ (wbounds xs at_ win).2 ∧ ∃ v, e = .returned (.tuple #[.float .f64 v, .bool true]) ∧ Best (ros xs ((wbounds xs at_ win).1 + 1) (wbounds xs at_ win).2) v)

set_option maxHeartbeats 400000 in
theorem ratemax_any (a : Option Addr) (n c : Nat) (xs : List Smp) (at_ win : Int) (w : World) (hl : Lies w a xs) (hn : xs.length = n) (hn2 : n ≤ 1024)
    (ha1 : -9223372036854775808 ≤ at_) (ha2 : at_ ≤ 9223372036854775807) (hw1 : -9223372036854775808 ≤ win) (hw2 : win ≤ 9223372036854775807) :
    Calls Yba.prog 10 #[.slice a n c, .int .i64 at_, .int .i64 win] w fun e w' => RmEnd xs at_ win e ∧ Below w.heap.size w w' := by
  have hwb := bounds_any a n c xs at_ win w hl hn hn2 ha1 ha2 hw1 hw2
  have hle := wb_le xs at_ win
  unfold RmEnd
  generalize wbounds xs at_ win = wb at *
  obtain ⟨f, l⟩ := wb
  have hle2 : f ≤ l ∧ l ≤ 1024 := ⟨hle.1, by have h9 : l ≤ xs.length := hle.2; omega⟩
  simp only at *
  by_cases hfew : l < f + 2
  · go_enter Yba.func10, Yba.ntmps10
    go_wp2_with fail
    refine hwb.mono ?_
    rintro e w1 ⟨rfl, hb⟩
    have hsz := hb.size
    clear hwb hl hn
    go_wp2_with fail
    refine (extreme_few w1.heap.size a n c f l at_ win _ hfew (by omega) (by omega)).mono ?_
    rintro e w2 ⟨rfl, rfl⟩
    go_wp2
    go_ret2
    exact ⟨Or.inl ⟨hfew, rfl⟩, hb.alloc hsz _⟩
  · rcases hl with he | ⟨b, o, rfl, hbl, hcell⟩
    · rw [he] at hle; simp at hle; omega
    · have HN : Hid (xs.length = n) := hn
      have hxn : n = xs.length := hn.symm
      clear hn
      subst hxn
      have HC : Hid (∀ i, i < xs.length → w.cell? ⟨b, o + i * 2, none⟩ = some (.int .i64 (xs.getD i (0, 0)).1) ∧ w.cell? ⟨b, o + i * 2 + 1, none⟩ = some (.float .f64 (xs.getD i (0, 0)).2)) := by
        intro i hi
        have h1 := hcell i hi
        have h2 : xs.getD i (0, 0) = xs[i] := by simp [List.getD, hi]
        rw [h2]; exact h1
      clear hcell
      go_enter Yba.func10, Yba.ntmps10
      go_wp2_with fail
      refine hwb.mono ?_
      rintro e w1 ⟨rfl, hb⟩
      have hsz := hb.size
      have hnew := newp w1
      have HX := extreme_many w1.heap.size b o c xs f l at_ win (w1.alloc (.cells #[.bool true, .int .i64 0, .int .i64 0, .slice none 0 0] 54)) (Nat.lt_of_lt_of_le hbl hsz) (by simp) (by omega) hle.2 hn2
        (fun i hi => by
          have h1 := HC.out i hi
          have hb2 : Below w.heap.size w (w1.alloc (.cells #[.bool true, .int .i64 0, .int .i64 0, .slice none 0 0] 54)) := hb.alloc hsz _
          exact ⟨(hb2.cell (p := ⟨b, o + i * 2, none⟩) hbl).trans h1.1, (hb2.cell (p := ⟨b, o + i * 2 + 1, none⟩) hbl).trans h1.2⟩)
        hnew.1 hnew.2.1 hnew.2.2.1 hnew.2.2.2.1 hnew.2.2.2.2
      clear hwb hnew HC
      go_wp2_with fail
      refine HX.mono ?_
      rintro e w2 ⟨v, rfl, hbest, hb2⟩
      have HB : Hid (Best (ros xs (f + 1) l) v ∧ Below w.heap.size w w2) := ⟨hbest, (hb.alloc hsz _).trans (hb2.mono hsz)⟩
      clear HX hbest hb2
      go_wp2
      go_ret2
      exact ⟨Or.inr ⟨by omega, v, rfl, HB.out.1⟩, HB.out.2⟩
end Go.Proofs.Ybulkdeha
