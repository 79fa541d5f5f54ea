/-
  The walk of LawS5278BExact (function 5).
-/
import Derived.Test.YbulkdehaExact
namespace Go.Proofs.Ybulkdeha
open Go.RowKit
open Ieee

theorem pow2_sum (k d : Nat) (hk : k + d ≤ 60) (w : World) :
    Calls Yba.prog 16 #[.int .i64 ((k : Int) + (d : Int))] w fun e w' => e = .returned (.float .f64 (Fl.pw (k + d))) ∧ w' = w := by
  have := pow2_any (k + d) hk w
  rw [Int.natCast_add] at this
  exact this

set_option maxHeartbeats 1000000 in
theorem ex_walk (a0 a1 a2 a3 : Int) (h00 : -9223372036854775808 ≤ a0) (h01 : a0 ≤ 9223372036854775807) (h20 : 0 ≤ a2) (h21 : a2 ≤ 255) (h30 : 0 ≤ a3) (h31 : a3 ≤ 255) (w : World) :
    Calls Yba.prog 5 #[.int .i64 a0, .int .i64 a1, .int .u8 a2, .int .u8 a3] w fun e w' => e = .returned (.bool true) ∧ w' = w := by
  obtain ⟨k, hk⟩ : ∃ k : Nat, a2 % 41 = (k : Int) := ⟨(a2 % 41).toNat, by omega⟩
  obtain ⟨d, hd⟩ : ∃ d : Nat, a3 % 10 = (d : Int) := ⟨(a3 % 10).toNat, by omega⟩
  have hk40 : k ≤ 40 := by omega
  have hd9 : d ≤ 9 := by omega
  obtain ⟨mb, hmb⟩ : ∃ mb, a1.tmod 9007199254740992 = mb := ⟨_, rfl⟩
  have hmb1 : -9007199254740991 ≤ mb ∧ mb ≤ 9007199254740991 := by
    have e1 := Int.lt_tmod_of_pos a1 (b := 9007199254740992) (by decide)
    have e2 := Int.tmod_lt_of_pos a1 (b := 9007199254740992) (by decide)
    omega
  obtain ⟨r, hr⟩ : ∃ r, a0.tmod 4503599627370496 = r := ⟨_, rfl⟩
  have hr1 : -4503599627370495 ≤ r ∧ r ≤ 4503599627370495 := by
    have e1 := Int.lt_tmod_of_pos a0 (b := 4503599627370496) (by decide)
    have e2 := Int.tmod_lt_of_pos a0 (b := 4503599627370496) (by decide)
    omega
  have hways : ∃ ma : Int, 4503599627370496 ≤ ma.natAbs ∧ ma.natAbs < 9007199254740992 ∧ ((0 ≤ a0 ∧ 0 ≤ r ∧ a0 % 4503599627370496 = r ∧ 4503599627370496 + r = ma) ∨ (a0 < 0 ∧ r < 0 ∧ a0.tmod 4503599627370496 = r ∧ -(4503599627370496 + -r) = ma) ∨ (a0 < 0 ∧ 0 ≤ r ∧ a0.tmod 4503599627370496 = r ∧ -(4503599627370496 + r) = ma)) := by
    by_cases hneg : 0 ≤ a0
    · have hr0 : 0 ≤ r := by rw [← hr]; exact Int.tmod_nonneg _ hneg
      have hr' : a0 % 4503599627370496 = r := by rw [← hr, Int.tmod_eq_emod_of_nonneg hneg]
      exact ⟨_, by omega, by omega, Or.inl ⟨hneg, hr0, hr', rfl⟩⟩
    · by_cases hr0 : r < 0
      · exact ⟨_, by omega, by omega, Or.inr (Or.inl ⟨by omega, hr0, hr, rfl⟩)⟩
      · exact ⟨_, by omega, by omega, Or.inr (Or.inr ⟨by omega, by omega, hr, rfl⟩)⟩
  clear hr
  obtain ⟨ma, hm1, hm2, hway⟩ := hways
  obtain ⟨S, a, b, s, e, sd, ed, e2, X⟩ := exact_all k d hk40 hd9 ma mb hm1 hm2 (by omega)
  have rm1 := run_float_arith (P := Yba.prog) w .mul 26 .f64 (floatOfInt .f64 ma) (Fl.pw (k + d)) a X.oa
  have rm2 := run_float_arith (P := Yba.prog) w .mul 26 .f64 (floatOfInt .f64 mb) (Fl.pw k) b X.ob
  have rs := run_float_arith (P := Yba.prog) w .add 26 .f64 a b s X.os
  have rd1 := run_float_arith (P := Yba.prog) w .quo 26 .f64 s (Fl.pw k) sd X.osd
  have rd2 := run_float_arith (P := Yba.prog) w .quo 26 .f64 e (Fl.pw k) ed X.oed
  have g1 : FloatKind.f64.format.order sd 14114063095424393472 = some .gt := X.gt1
  have g2 : FloatKind.f64.format.order sd 4890691058569617664 = some .lt := X.lt1
  have g3 : FloatKind.f64.format.order ed 14114063095424393472 = some .gt := X.gt2
  have g4 : FloatKind.f64.format.order ed 4890691058569617664 = some .lt := X.lt2
  have c1 := run_convert_float_int (P := Yba.prog) w 26 2 .f64 .i64 sd S (by rw [Yba.underlying26]; rfl) Yba.underlying2 X.is
  have c2 := run_convert_float_int (P := Yba.prog) w 26 2 .f64 .i64 ed _ (by rw [Yba.underlying26]; rfl) Yba.underlying2 X.ie
  have q1 : FloatKind.f64.format.order (floatOfInt .f64 S) sd = some .eq := X.eq1
  have q2 : FloatKind.f64.format.order (floatOfInt .f64 (ma * 2 ^ d + mb - S)) ed = some .eq := X.eq2
  have q3 : FloatKind.f64.format.order e2 e = some .eq := X.eqe
  have bS := X.bS
  have bE := X.bE
  have oe := X.oe
  have oe2 := X.oe2
  clear X
  generalize hA : ma * 2 ^ d = A at *
  have bA : -4611686018427387904 ≤ A ∧ A ≤ 4611686018427387904 := by
    have h5 := Fl.natAbs_scale ma d
    rw [hA] at h5
    have h6 : 2 ^ d ≤ 2 ^ 9 := Nat.pow_le_pow_right (by omega) hd9
    have h7 := Nat.mul_le_mul (Nat.le_of_lt hm2) h6
    omega
  have hne : (S + (A + mb - S) != A + mb) = false := by
    rw [show S + (A + mb - S) = A + mb from by omega]; simp
  rcases hway with ⟨u1, u2, u3, u4⟩ | ⟨u1, u2, u3, u4⟩ | ⟨u1, u2, u3, u4⟩
  all_goals
    go_enter Yba.func5, Yba.ntmps5
    go_wp2_with fail
    refine (pow2_any k (by omega) _).mono ?_
    rintro e w' ⟨rfl, hw⟩
    obtain rfl := hw.symm
    clear hw
    go_wp2_with fail
    refine (pow2_sum k d (by omega) _).mono ?_
    rintro e w' ⟨rfl, hw⟩
    obtain rfl := hw.symm
    clear hw
    go_wp2_with fail
    refine (roff_any _ _ _ _ oe _).mono ?_
    rintro e w' ⟨rfl, hw⟩
    obtain rfl := hw.symm
    clear hw
    go_wp2_with fail
    refine (roff_any _ _ _ _ oe2 _).mono ?_
    rintro e w' ⟨rfl, hw⟩
    obtain rfl := hw.symm
    clear hw
    go_wp2
    go_ret
    exact ⟨rfl, rfl⟩
end Go.Proofs.Ybulkdeha
