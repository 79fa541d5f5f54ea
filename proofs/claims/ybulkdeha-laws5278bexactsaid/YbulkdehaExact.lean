/-
  The plain law behind LawS5278BExact: every float operation of its text has an answer, and what it stands for.
-/
import Derived.Test.YbulkdehaRound
namespace Go.Proofs.Ybulkdeha
open Ieee Fl

theorem scale_lt (a : Int) (j : Nat) (h : a.natAbs < 2 ^ 100) (hj : j ≤ 1500) : (a * 2 ^ j).natAbs.log2 < 2097 := by
  have := log2_scale a 100 j h (by omega)
  omega

theorem ro_rep (j : Nat) (hj : j ≤ 1500) (X Y S P Q R1 R2 R : Int) {x y s : Nat} (hx : Rep x (X * 2 ^ j)) (hy : Rep y (Y * 2 ^ j)) (hs : Rep s (S * 2 ^ j))
    (hP : rndZ (S - X) = P) (hQ : rndZ (S - P) = Q) (h1 : rndZ (X - Q) = R1) (h2 : rndZ (Y - P) = R2) (hR : rndZ (R1 + R2) = R)
    (b1 : (S - X).natAbs < 2 ^ 100) (b2 : (S - P).natAbs < 2 ^ 100) (b3 : (X - Q).natAbs < 2 ^ 100) (b4 : (Y - P).natAbs < 2 ^ 100) (b5 : (R1 + R2).natAbs < 2 ^ 100) :
    ∃ e, ROff x y s e ∧ Rep e (R * 2 ^ j) := by
  obtain ⟨bp, o1, r1⟩ := sub_rep hs hx (by rw [← Int.sub_mul]; exact scale_lt _ j b1 hj)
  rw [← Int.sub_mul, rndZ_scale, hP] at r1
  obtain ⟨ap, o2, r2⟩ := sub_rep hs r1 (by rw [← Int.sub_mul]; exact scale_lt _ j b2 hj)
  rw [← Int.sub_mul, rndZ_scale, hQ] at r2
  obtain ⟨t1, o3, r3⟩ := sub_rep hx r2 (by rw [← Int.sub_mul]; exact scale_lt _ j b3 hj)
  rw [← Int.sub_mul, rndZ_scale, h1] at r3
  obtain ⟨t2, o4, r4⟩ := sub_rep hy r1 (by rw [← Int.sub_mul]; exact scale_lt _ j b4 hj)
  rw [← Int.sub_mul, rndZ_scale, h2] at r4
  obtain ⟨e, o5, r5⟩ := add_rep r3 r4 (by rw [← Int.add_mul]; exact scale_lt _ j b5 hj)
  rw [← Int.add_mul, rndZ_scale, hR] at r5
  exact ⟨e, ⟨bp, ap, t1, t2, o1, o2, o3, o4, o5⟩, r5⟩

theorem cneg : Rep 14114063095424393472 (-9000000000000000000 * 2 ^ E0) := by
  have h := ofInt_rep (-9000000000000000000) (by decide)
  rw [show rndZ (-9000000000000000000) = -9000000000000000000 from by decide +kernel] at h
  rw [show (14114063095424393472 : Nat) = double.write (.number (decide ((-9000000000000000000 : Int) < 0)) (-9000000000000000000 : Int).natAbs 0) from by decide +kernel]
  exact h
theorem cpos : Rep 4890691058569617664 (9000000000000000000 * 2 ^ E0) := by
  have h := ofInt_rep 9000000000000000000 (by decide)
  rw [show rndZ 9000000000000000000 = 9000000000000000000 from by decide +kernel] at h
  rw [show (4890691058569617664 : Nat) = double.write (.number (decide ((9000000000000000000 : Int) < 0)) (9000000000000000000 : Int).natAbs 0) from by decide +kernel]
  exact h

theorem order_of {x y : Nat} {a b : Int} (hx : Rep x (a * 2 ^ E0)) (hy : Rep y (b * 2 ^ E0)) : double.order x y = some (compare a b) := by
  rw [order_rep hx hy, compare_mul _ _ _ (Int.pow_pos (by decide))]
theorem cmp_lt {a b : Int} (h : a < b) : compare a b = .lt := Int.compare_eq_lt.2 h
theorem cmp_gt {a b : Int} (h : b < a) : compare a b = .gt := Int.compare_eq_gt.2 h
theorem cmp_eq (a : Int) : compare a a = .eq := Int.compare_eq_eq.2 rfl

/-- Everything that the law's text reckons in floats. -/
structure ExactAll (k d : Nat) (ma mb A S : Int) (a b s e sd ed e2 : Nat) : Prop where
  oa : double.mul (floatOfInt .f64 ma) (pw (k + d)) = some a
  ob : double.mul (floatOfInt .f64 mb) (pw k) = some b
  os : double.add a b = some s
  oe : ROff a b s e
  osd : double.div s (pw k) = some sd
  oed : double.div e (pw k) = some ed
  gt1 : double.order sd 14114063095424393472 = some .gt
  lt1 : double.order sd 4890691058569617664 = some .lt
  gt2 : double.order ed 14114063095424393472 = some .gt
  lt2 : double.order ed 4890691058569617664 = some .lt
  is : floatToIntVal .f64 sd .i64 = some S
  ie : floatToIntVal .f64 ed .i64 = some (A + mb - S)
  eq1 : double.order (floatOfInt .f64 S) sd = some .eq
  eq2 : double.order (floatOfInt .f64 (A + mb - S)) ed = some .eq
  oe2 : ROff b a s e2
  eqe : double.order e2 e = some .eq
  bS : -8999999999999999999 ≤ S ∧ S ≤ 8999999999999999999
  bE : -1024 ≤ A + mb - S ∧ A + mb - S ≤ 1024

theorem toInt_val {x : Nat} {n : Int} (h : Rep x (n * 2 ^ E0)) (h1 : -9223372036854775808 ≤ n) (h2 : n ≤ 9223372036854775807) : floatToIntVal .f64 x .i64 = some n := by
  have e : (FloatKind.f64.decode x).toInt .zero = some n := toInt_rep h
  unfold floatToIntVal
  rw [e]
  have hmin : IntKind.i64.min = -9223372036854775808 := by decide
  have hmax : IntKind.i64.max = 9223372036854775807 := by decide
  simp only [hmin, hmax]
  rw [if_pos ⟨h1, h2⟩]

theorem ofInt_val (n : Int) (h : n.natAbs < 2 ^ 64) : Rep (floatOfInt .f64 n) (rndZ n * 2 ^ E0) := ofInt_rep n h

theorem exact_all (k d : Nat) (hk : k ≤ 40) (hd : d ≤ 9) (ma mb : Int) (h1 : 4503599627370496 ≤ ma.natAbs) (h2 : ma.natAbs < 9007199254740992) (h3 : mb.natAbs < 9007199254740992) :
    ∃ S a b s e sd ed e2, ExactAll k d ma mb (ma * 2 ^ d) S a b s e sd ed e2 := by
  have hT := two_any d hd ma mb (rndZ (ma * 2 ^ d + mb)) h1 h2 h3 rfl
  have hE := E0_eq
  have p100 : (2 : Nat) ^ 100 = 1267650600228229401496703205376 := by decide
  have p64 : (2 : Nat) ^ 64 = 18446744073709551616 := by decide
  -- float64(ma), float64(mb)
  have fa := ofInt_val ma (by omega)
  rw [rnd_tiny ma (by omega)] at fa
  have fb := ofInt_val mb (by omega)
  rw [rnd_tiny mb (by omega)] at fb
  obtain ⟨a, oa, ra⟩ := mul_pw (k + d) (by omega) fa (by omega)
  rw [rndZ_scale, rnd_tiny ma (by omega), show k + d = d + k from by omega, Int.pow_add, ← Int.mul_assoc, Int.mul_assoc _ (2 ^ k), ← Int.pow_add] at ra
  obtain ⟨b, ob, rb⟩ := mul_pw k (by omega) fb (by omega)
  rw [rndZ_scale, rnd_tiny mb (by omega), Int.mul_assoc, ← Int.pow_add] at rb
  have hA : (ma * 2 ^ d).natAbs ≤ 4611686018427387904 := by
    rw [natAbs_scale]
    have : 2 ^ d ≤ 2 ^ 9 := Nat.pow_le_pow_right (by omega) hd
    have := Nat.mul_le_mul (Nat.le_of_lt h2) this
    omega
  generalize ma * 2 ^ d = A at *
  obtain ⟨s, os, rs⟩ := add_rep ra rb (by rw [← Int.add_mul]; exact scale_lt _ _ (by omega) (by omega))
  rw [← Int.add_mul, rndZ_scale] at rs
  generalize rndZ (A + mb) = S at *
  have l := hT.lost
  have bg := hT.big
  have nr := hT.near
  -- roundoff(a, b, sum)
  obtain ⟨e, oe, re⟩ := ro_rep (k + E0) (by omega) A mb S (S - A) A 0 (A + mb - S) (A + mb - S) ra rb rs hT.one
    (by rw [show S - (S - A) = A from by omega]; exact hT.exA) (by rw [Int.sub_self]; decide) (by rw [show mb - (S - A) = A + mb - S from by omega]; exact rnd_tiny _ (by omega))
    (by rw [Int.zero_add]; exact rnd_tiny _ (by omega)) (by omega) (by omega) (by omega) (by omega) (by omega)
  -- roundoff(b, a, sum)
  have two := hT.two
  obtain ⟨e2, oe2, re2⟩ := ro_rep (k + E0) (by omega) mb A S (rndZ (S - mb)) (S - rndZ (S - mb)) (mb - (S - rndZ (S - mb))) (A - rndZ (S - mb)) (A + mb - S) rb ra rs rfl two
    (rnd_tiny _ (by omega)) (rnd_tiny _ (by omega)) (by rw [show mb - (S - rndZ (S - mb)) + (A - rndZ (S - mb)) = A + mb - S from by omega]; exact rnd_tiny _ (by omega))
    (by omega) (by omega) (by omega) (by omega) (by omega)
  -- the quotients
  rw [Int.pow_add, ← Int.mul_assoc] at rs re re2
  obtain ⟨sd, osd, rsd⟩ := div_pw k (by omega) rs (by omega)
  rw [hT.exS] at rsd
  obtain ⟨ed, oed, red⟩ := div_pw k (by omega) re (by omega)
  rw [rnd_tiny (A + mb - S) (by omega)] at red
  have fs := ofInt_val S (by omega)
  rw [hT.exS] at fs
  have fe := ofInt_val (A + mb - S) (by omega)
  rw [rnd_tiny (A + mb - S) (by omega)] at fe
  refine ⟨S, a, b, s, e, sd, ed, e2, ⟨oa, ob, os, oe, osd, oed, ?_, ?_, ?_, ?_, toInt_val rsd (by omega) (by omega), toInt_val red (by omega) (by omega), ?_, ?_, oe2, ?_, bg, l⟩⟩
  · rw [order_of rsd cneg, cmp_gt (by omega)]
  · rw [order_of rsd cpos, cmp_lt (by omega)]
  · rw [order_of red cneg, cmp_gt (by omega)]
  · rw [order_of red cpos, cmp_lt (by omega)]
  · rw [order_of fs rsd, cmp_eq]
  · rw [order_of fe red, cmp_eq]
  · rw [order_rep re2 re, cmp_eq]
end Go.Proofs.Ybulkdeha
