/-
  The walk of LawS5278ALastPair (4).
-/
import Derived.Test.YbulkdehaLastTwo
namespace Go.Proofs.Ybulkdeha
open Go.RowKit
open Ieee
attribute [local go_sem] run_store_float

theorem ros_mem (xs : List Smp) (lo i hi : Nat) (h1 : lo ≤ i) (h2 : i < hi) : rt (xs.getD (i - 1) (0, 0)) (xs.getD i (0, 0)) ∈ ros xs lo hi := by
  unfold ros
  rw [List.mem_map]
  exact ⟨i - lo, List.mem_range.2 (by omega), by rw [show lo + (i - lo) = i from by omega]⟩

theorem best_nan {ro : List (Option Nat)} {v r : Nat} {o : Option Nat} (hb : Best ro v) (hm : o ∈ ro) (hr : RtOk o r) (hn : nanB r = true) : nanB v = true := by
  rw [nanB_iff] at hn ⊢
  cases o with
  | none => exact hb.1 hm
  | some x => rw [hr.1] at hn; exact absurd hn hr.2
theorem best_ge {ro : List (Option Nat)} {v r : Nat} {o : Option Nat} (hb : Best ro v) (hm : o ∈ ro) (hr : RtOk o r) (hn : nanB r = false) (hv : nanB v = false) :
    (FloatKind.f64.format.order v r == some .gt || FloatKind.f64.format.order v r == some .eq) = true := by
  rw [nanB_false] at hn hv
  cases o with
  | none => exact absurd hr hn
  | some x =>
    have hno : none ∉ ro := fun h => hv (hb.1 h)
    have h3 := (hb.2 hno).2.2 x hm
    rw [← hr.1] at h3
    show (double.order v r == some .gt || double.order v r == some .eq) = true
    rw [order_key hv hn]
    by_cases h : K r < K v
    · rw [cmp_gt' h]; rfl
    · rw [Int.compare_eq_eq.2 (by omega)]; rfl

theorem zero_eq : FloatKind.f64.format.order 0 0 = some .eq := by decide +kernel

set_option maxRecDepth 100000 in
set_option maxHeartbeats 2000000 in
theorem lp_walk (a : Option Addr) (n c : Nat) (xs : List Smp) (at_ wn : Int) (ms : Bool) (w : World) (hl : Lies w a xs) (hn : xs.length = n) (hn2 : n ≤ 1024) (hnil : a = none → n = 0)
    (ha1 : -9223372036854775808 ≤ at_) (ha2 : at_ ≤ 9223372036854775807) (hw1 : -9223372036854775808 ≤ wn) (hw2 : wn ≤ 9223372036854775807) :
    Calls Yba.prog 4 #[.slice a n c, .int .i64 at_, .int .i64 wn, .bool ms] w fun e w' => e = .returned (.bool true) ∧ Below w.heap.size w w' := by
  have hcl := clone_any a n c xs w hl hn hn2 hnil
  have HN : Hid (xs.length = n) := hn
  have HZ : Hid (FloatKind.f64.format.order 0 0 = some .eq) := zero_eq
  clear hl hn hnil
  cases ms
  case' false =>
    go_enter Yba.func4, Yba.ntmps4
    go_wp2_with fail
    refine hcl.mono ?_
    rintro e w1 ⟨a', c', rfl, hl1, hb1⟩
    clear hcl
    have hwin := And.intro hw1 hw2
    go_wp2_with fail
    generalize wn = win at *
  case' true =>
    go_enter Yba.func4, Yba.ntmps4
    go_wp2_with fail
    refine hcl.mono ?_
    rintro e w1 ⟨a', c', rfl, hl1, hb1⟩
    clear hcl
    go_wp2_with fail
    have hwin := wrap64_bounds (wrap64 (wrap32 wn) * 1000000)
    generalize wrap64 (wrap64 (wrap32 wn) * 1000000) = win at *
  all_goals
    have hrm := ratemax_any a' n c' xs at_ win w1 hl1 HN.out hn2 ha1 ha2 hwin.1 hwin.2
    refine hrm.mono ?_
    rintro e w2 ⟨hend, hb2⟩
    have hlt := lasttwo_any a' n c' xs at_ win w2 (hl1.below hb2) HN.out hn2 ha1 ha2 hwin.1 hwin.2
    have hb12 := hb1.trans (hb2.mono hb1.size)
    clear hrm hl1 hb1 hb2
    rcases hend with ⟨hfew, rfl⟩ | ⟨hmany, v, rfl, hbest⟩
    · have HF := hfew
      have hz := HZ.out
      clear hfew
      go_wp2_with fail
      refine hlt.mono ?_
      rintro e w3 ⟨hend, hb3⟩
      have HB : Hid (Below w.heap.size w w3) := hb12.trans (hb3.mono hb12.size)
      clear hlt hb3 hb12
      rcases hend with ⟨_, rfl⟩ | ⟨hm, _⟩
      · go_wp2
        go_ret
        exact ⟨rfl, HB.out.trans ((below2 w3 _ _).mono HB.out.size)⟩
      · omega
    · have HM : Hid (rt (xs.getD ((wbounds xs at_ win).2 - 2) (0, 0)) (xs.getD ((wbounds xs at_ win).2 - 1) (0, 0)) ∈ ros xs ((wbounds xs at_ win).1 + 1) (wbounds xs at_ win).2) := by
        have := ros_mem xs ((wbounds xs at_ win).1 + 1) ((wbounds xs at_ win).2 - 1) (wbounds xs at_ win).2 (by omega) (by omega)
        rw [show (wbounds xs at_ win).2 - 1 - 1 = (wbounds xs at_ win).2 - 2 from by omega] at this
        exact this
      have HBE : Hid (Best (ros xs ((wbounds xs at_ win).1 + 1) (wbounds xs at_ win).2) v) := hbest
      clear hbest
      go_wp2_with fail
      refine hlt.mono ?_
      rintro e w3 ⟨hend, hb3⟩
      have HB : Hid (Below w.heap.size w w3) := hb12.trans (hb3.mono hb12.size)
      clear hlt hb3 hb12
      rcases hend with ⟨hm, _⟩ | ⟨_, rfl⟩
      · omega
      · generalize xs.getD ((wbounds xs at_ win).2 - 2) (0, 0) = P1 at *
        generalize xs.getD ((wbounds xs at_ win).2 - 1) (0, 0) = P2 at *
        generalize ros xs ((wbounds xs at_ win).1 + 1) (wbounds xs at_ win).2 = ro at *
        clear hmany
        go_wp2_with fail
        refine (arate_any P1 P2 _).mono ?_
        rintro e w4 ⟨r, rfl, hr, hb4⟩
        have HB4 : Hid (Below w.heap.size w w4) := by
          have h1 := HB.out.trans ((below2 w3 (.cells #[.int .i64 P1.1, .float .f64 P1.2] 28) (.cells #[.int .i64 P2.1, .float .f64 P2.2] 28)).mono HB.out.size)
          exact h1.trans (hb4.mono h1.size)
        have HR : Hid (RtOk (rt P1 P2) r) := hr
        clear hb4 hr
        cases hnr : nanB r
        · cases hnv : nanB v
          · have hge := best_ge HBE.out HM.out HR.out hnr hnv
            go_wp2_with (go_at_call 14; refine (isnan_any _ _).mono ?_; rintro e w' ⟨rfl, hw⟩; obtain rfl := hw.symm; clear hw; first | rw [hnr] | rw [hnv])
            go_ret
            exact ⟨rfl, HB4.out⟩
          · go_wp2_with (go_at_call 14; refine (isnan_any _ _).mono ?_; rintro e w' ⟨rfl, hw⟩; obtain rfl := hw.symm; clear hw; first | rw [hnr] | rw [hnv])
            go_ret
            exact ⟨rfl, HB4.out⟩
        · have hnv := best_nan HBE.out HM.out HR.out hnr
          go_wp2_with (go_at_call 14; refine (isnan_any _ _).mono ?_; rintro e w' ⟨rfl, hw⟩; obtain rfl := hw.symm; clear hw; first | rw [hnr] | rw [hnv])
          go_ret
          exact ⟨rfl, HB4.out⟩
end Go.Proofs.Ybulkdeha
