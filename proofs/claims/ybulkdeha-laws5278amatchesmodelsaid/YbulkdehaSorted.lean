/-
  On samples in time order the search's bounds are those of the window: a plain law; and the walk of zzs5278ain (12).
-/
import Derived.Test.YbulkdehaRateMax
namespace Go.Proofs.Ybulkdeha
open Go.RowKit

/-- the time of sample i -/
def tm (xs : List Smp) (i : Nat) : Int := (xs.getD i (0, 0)).1
/-- in time order -/
def Sorted (xs : List Smp) : Prop := ∀ i j, i ≤ j → j < xs.length → tm xs i ≤ tm xs j

theorem bsGo_sorted {xs : List Smp} (hs : Sorted xs) (t : Int) : ∀ (f i j : Nat), i ≤ j → j ≤ xs.length → j - i ≤ f → (∀ q, q < i → tm xs q ≤ t) → (∀ q, j ≤ q → q < xs.length → t < tm xs q) →
    ∀ q, q < xs.length → (q < bsGo xs t f i j ↔ tm xs q ≤ t)
  | 0, i, j, hij, hj, hf, h1, h2, q, hq => by
    rw [bsGo]
    constructor
    · intro h; exact h1 q h
    · intro h
      rcases Nat.lt_or_ge q i with h' | h'
      · exact h'
      · have := h2 q (by omega) hq; omega
  | f + 1, i, j, hij, hj, hf, h1, h2, q, hq => by
    rw [bsGo]
    by_cases hlt : i < j
    · rw [if_pos hlt]
      have hm : (i + j) / 2 < xs.length := by omega
      by_cases ht : t < (xs.getD ((i + j) / 2) (0, 0)).1
      · rw [if_pos ht]
        refine bsGo_sorted hs t f i ((i + j) / 2) (by omega) (by omega) (by omega) h1 (fun p hp hpl => ?_) q hq
        have h3 := hs ((i + j) / 2) p hp hpl
        have h4 : t < tm xs ((i + j) / 2) := ht
        omega
      · rw [if_neg ht]
        refine bsGo_sorted hs t f ((i + j) / 2 + 1) j (by omega) hj (by omega) (fun p hp => ?_) h2 q hq
        have h3 := hs p ((i + j) / 2) (by omega) hm
        have h4 : tm xs ((i + j) / 2) ≤ t := by unfold tm; omega
        omega
    · rw [if_neg hlt]
      constructor
      · intro h; exact h1 q h
      · intro h
        rcases Nat.lt_or_ge q i with h' | h'
        · exact h'
        · have := h2 q (by omega) hq; omega
theorem bs_sorted {xs : List Smp} (hs : Sorted xs) (t : Int) (q : Nat) (hq : q < xs.length) : q < bs xs t ↔ tm xs q ≤ t :=
  bsGo_sorted hs t _ 0 _ (Nat.zero_le _) (Nat.le_refl _) (by omega) (fun q h => by omega) (fun q h1 h2 => by omega) q hq

/-- does the time t lie in (at - window, at]? -/
def ainB (t at_ win : Int) : Bool := decide (0 < win ∧ t ≤ at_ ∧ at_ - t ≤ 9223372036854 ∧ (at_ - t) * 1000000 < win)

theorem reach_iff (d win : Int) : d < reach win ↔ d * 1000000 < win := by
  unfold reach
  split <;> omega

theorem ain_bounds {xs : List Smp} (hs : Sorted xs) (hr : ∀ i, i < xs.length → -9223372036854775808 ≤ tm xs i) (at_ win : Int) (ha2 : at_ ≤ 9223372036854775807) (hw2 : win ≤ 9223372036854775807) (q : Nat) (hq : q < xs.length) :
    ainB (tm xs q) at_ win = decide ((wbounds xs at_ win).1 ≤ q ∧ q < (wbounds xs at_ win).2) := by
  unfold ainB
  rw [decide_eq_decide]
  have b1 := bs_sorted hs at_ q hq
  have hrq := hr q hq
  unfold wbounds
  by_cases h0 : win ≤ 0
  · rw [if_pos h0]
    simp only
    omega
  · rw [if_neg h0]
    have h1 := reach_iff (at_ - tm xs q) win
    by_cases hlow : at_ < -9223372036854775808 + reach win
    · rw [if_pos hlow]
      simp only
      omega
    · rw [if_neg hlow]
      have b2 := bs_sorted hs (at_ - reach win) q hq
      simp only
      omega

theorem u64_diff (t at_ : Int) (h : t ≤ at_) (h1 : -9223372036854775808 ≤ t) (h2 : at_ ≤ 9223372036854775807) : IntKind.u64.wrap (IntKind.u64.wrap at_ - IntKind.u64.wrap t) = at_ - t := by
  simp only [IntKind.wrap_u64]
  omega
theorem u64_prod (d : Int) (h : 0 ≤ d) (h1 : d ≤ 9223372036854) : IntKind.u64.wrap (d * 1000000) = d * 1000000 := by
  simp only [IntKind.wrap_u64]
  omega

set_option maxHeartbeats 400000 in
theorem ain_any (t at_ win : Int) (w : World) (ht1 : -9223372036854775808 ≤ t) (ha2 : at_ ≤ 9223372036854775807) (hw1 : -9223372036854775808 ≤ win) (hw2 : win ≤ 9223372036854775807) :
    Calls Yba.prog 12 #[.int .i64 t, .int .i64 at_, .int .i64 win] w fun e w' => e = .returned (.bool (ainB t at_ win)) ∧ w' = w := by
  by_cases h0 : win ≤ 0
  · have HA : Hid (ainB t at_ win = false) := by show _ = _; unfold ainB; rw [decide_eq_false_iff_not]; omega
    go_enter Yba.func12, Yba.ntmps12
    go_wp2
    go_ret
    exact ⟨by rw [HA.out]; rfl, rfl⟩
  · by_cases h1 : at_ < t
    · have HA : Hid (ainB t at_ win = false) := by show _ = _; unfold ainB; rw [decide_eq_false_iff_not]; omega
      go_enter Yba.func12, Yba.ntmps12
      go_wp2
      go_ret
      exact ⟨by rw [HA.out]; rfl, rfl⟩
    · by_cases h2 : 9223372036854 < at_ - t
      · have HA : Hid (ainB t at_ win = false) := by show _ = _; unfold ainB; rw [decide_eq_false_iff_not]; omega
        have hd := u64_diff t at_ (by omega) ht1 ha2
        go_enter Yba.func12, Yba.ntmps12
        go_wp2
        go_ret
        exact ⟨by rw [HA.out]; rfl, rfl⟩
      · have HA : Hid (ainB t at_ win = decide ((at_ - t) * 1000000 < win)) := by show _ = _; unfold ainB; rw [decide_eq_decide]; omega
        have hd := u64_diff t at_ (by omega) ht1 ha2
        have hm := u64_prod (at_ - t) (by omega) (by omega)
        go_enter Yba.func12, Yba.ntmps12
        go_wp2
        go_ret
        exact ⟨by rw [HA.out]; rfl, rfl⟩
end Go.Proofs.Ybulkdeha
