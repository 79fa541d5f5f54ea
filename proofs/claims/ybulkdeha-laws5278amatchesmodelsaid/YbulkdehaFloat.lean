/-
  Plain laws of double precision over exact whole numbers: no Go in sight.
  Every finite double is a whole multiple of the least place. 'Rep x a': the word x stands for the number a, counted in that unit.
-/
import Ieee.Arith
namespace Go.Proofs.Ybulkdeha.Fl
open Ieee

/-- rounding to 53 digits, nearest, ties to even -/
def cutE (n e : Nat) : Nat :=
  n / 2 ^ e + (decide (2 ^ e < 2 * (n % 2 ^ e)) || (2 ^ e == 2 * (n % 2 ^ e) && n / 2 ^ e % 2 == 1)).toNat
def rndN (n : Nat) : Nat := cutE n (n.log2 - 52) * 2 ^ (n.log2 - 52)
def rndZ (a : Int) : Int := if a < 0 then -(rndN a.natAbs : Int) else (rndN a.natAbs : Int)

theorem signed_eq (s : Bool) (m u : Nat) : signed s m u = (if s then -1 else 1) * ((m : Int) * 2 ^ u) := by
  unfold signed
  rw [Nat.shiftLeft_eq]
  cases s <;> simp [Int.natCast_mul, Int.natCast_pow]

theorem cutE_bounds (n : Nat) (hn : n ≠ 0) : cutE n (n.log2 - 52) ≤ 2 ^ 53 ∧ (52 ≤ n.log2 → 2 ^ 52 ≤ cutE n (n.log2 - 52)) := by
  have h1 := (Nat.log2_eq_iff hn).1 rfl
  unfold cutE
  generalize hL : n.log2 = L at *
  by_cases h52 : 52 ≤ L
  · obtain ⟨e, rfl⟩ : ∃ e, L = e + 52 := ⟨L - 52, by omega⟩
    simp only [Nat.add_sub_cancel]
    have hp : 0 < 2 ^ e := Nat.two_pow_pos e
    have hlow : 2 ^ 52 ≤ n / 2 ^ e := by
      rw [Nat.le_div_iff_mul_le hp, ← Nat.pow_add, Nat.add_comm]; exact h1.1
    have hup : n / 2 ^ e < 2 ^ 53 := by
      rw [Nat.div_lt_iff_lt_mul hp, ← Nat.pow_add, Nat.add_comm]; exact h1.2
    have hb := Bool.toNat_le (decide (2 ^ e < 2 * (n % 2 ^ e)) || (2 ^ e == 2 * (n % 2 ^ e) && n / 2 ^ e % 2 == 1))
    exact ⟨by omega, fun _ => by omega⟩
  · have e0 : L - 52 = 0 := by omega
    rw [e0]
    have : n < 2 ^ 53 := Nat.lt_of_lt_of_le h1.2 (Nat.pow_le_pow_right (by omega) (by omega))
    refine ⟨?_, fun h => by omega⟩
    simp [Nat.mod_one]
    omega

/-- The word x is finite and stands for a, counted in units of the least place. -/
def Rep (x : Nat) (a : Int) : Prop :=
  ∃ (s : Bool) (m u : Nat), double.read x = .number s m ((u : Int) - 1074) ∧ m < 2 ^ 53 ∧ (2 ^ 52 ≤ m ∨ u = 0) ∧ a = (if s then -1 else 1) * ((m : Int) * 2 ^ u)

theorem lp : double.leastPlace = -1074 := by decide
theorem bn : double.binade = 2 ^ 52 := by decide
theorem ir : double.infRung = 2047 * 2 ^ 52 := by decide
theorem sw : double.signWeight = 2 ^ 63 := by decide
theorem fb : double.fractionBits = 52 := rfl

theorem read_word (s : Bool) (r : Nat) (h : r < 2 ^ 63) :
    double.read (double.word s r) =
      if r < 2 ^ 52 then .number s r (-1074)
      else if r < 2047 * 2 ^ 52 then .number s (2 ^ 52 + r % 2 ^ 52) (-1074 + ((r / 2 ^ 52 - 1 : Nat) : Int))
      else if r = 2047 * 2 ^ 52 then .infinity s else .nan s (r - 2047 * 2 ^ 52) := by
  unfold Format.read Format.word
  rw [lp, bn, ir, sw]
  have e1 : (if s = true then 2 ^ 63 + r else r) % 2 ^ 63 = r := by
    cases s <;> simp <;> omega
  have e2 : ((if s = true then 2 ^ 63 + r else r) / 2 ^ 63 % 2 == 1) = s := by
    cases s
    · simp; omega
    · simp; omega
  simp only [e1, e2]

theorem rep_word (s : Bool) (L k : Nat) (hk : k ≤ 2 ^ 53) (hL : L ≤ 2044) (hlo : L = 0 ∨ 2 ^ 52 ≤ k) :
    Rep (double.word s (L * 2 ^ 52 + k)) ((if s then -1 else 1) * ((k : Int) * 2 ^ L)) := by
  have hr := read_word s (L * 2 ^ 52 + k) (by omega)
  by_cases h1 : L * 2 ^ 52 + k < 2 ^ 52
  · rw [if_pos h1] at hr
    have hL0 : L = 0 := by omega
    subst hL0
    refine ⟨s, k, 0, ?_, by omega, Or.inr rfl, rfl⟩
    rw [hr]; simp
  · rw [if_neg h1, if_pos (by omega)] at hr
    by_cases h2 : k = 2 ^ 53
    · refine ⟨s, 2 ^ 52, L + 1, ?_, by omega, Or.inl (Nat.le_refl _), ?_⟩
      · rw [hr]
        have a1 : (L * 2 ^ 52 + k) % 2 ^ 52 = 0 := by omega
        have a2 : (L * 2 ^ 52 + k) / 2 ^ 52 - 1 = L + 1 := by omega
        rw [a1, a2]; simp; omega
      · subst h2
        rw [Int.pow_succ]
        congr 1
        generalize (2 : Int) ^ L = t
        omega
    · have hk2 : 2 ^ 52 ≤ k := by omega
      refine ⟨s, k, L, ?_, by omega, Or.inl hk2, rfl⟩
      rw [hr]
      have a1 : (L * 2 ^ 52 + k) % 2 ^ 52 = k - 2 ^ 52 := by omega
      have a2 : (L * 2 ^ 52 + k) / 2 ^ 52 - 1 = L := by omega
      rw [a1, a2]
      have a3 : 2 ^ 52 + (k - 2 ^ 52) = k := by omega
      rw [a3]
      congr 1

theorem cut_eq (s : Bool) (m u : Nat) :
    Toward.even.cut s (m <<< (u - (m.log2 + u - 52))) ((m.log2 + u - 52) - u) = cutE (m * 2 ^ u) (m.log2 + u - 52) := by
  unfold Toward.cut cutE
  by_cases h : m.log2 + u - 52 ≤ u
  · obtain ⟨v, hv⟩ : ∃ v, u = v + (m.log2 + u - 52) := ⟨u - (m.log2 + u - 52), by omega⟩
    generalize m.log2 + u - 52 = L at *
    subst hv
    rw [Nat.add_sub_cancel, Nat.sub_eq_zero_of_le (by omega : L ≤ v + L)]
    simp only [Nat.zero_min, Nat.shiftLeft_zero, Nat.div_one, Nat.mod_one]
    rw [Nat.shiftLeft_eq, Nat.pow_add, ← Nat.mul_assoc, Nat.mul_div_cancel _ (Nat.two_pow_pos L), Nat.mul_mod_left]
    have := Nat.two_pow_pos L
    have e1 : decide (2 ^ L < 2 * 0) = false := by simp
    have e2 : (2 ^ L == 2 * 0) = false := by simp
    rw [e1, e2]
    simp
  · obtain ⟨d, hd⟩ : ∃ d, m.log2 + u - 52 = u + d := ⟨m.log2 - 52, by omega⟩
    have hd2 : d ≤ m.log2 + 2 := by omega
    rw [hd, Nat.sub_eq_zero_of_le (by omega : u ≤ u + d), Nat.add_sub_cancel_left]
    simp only [Nat.shiftLeft_zero]
    simp only [Nat.min_eq_left hd2, Nat.shiftLeft_eq, Nat.one_mul]
    have hp := Nat.two_pow_pos u
    have e1 : m * 2 ^ u / 2 ^ (u + d) = m / 2 ^ d := by
      rw [Nat.pow_add, ← Nat.div_div_eq_div_mul, Nat.mul_div_cancel _ hp]
    have e2 : m * 2 ^ u % 2 ^ (u + d) = (m % 2 ^ d) * 2 ^ u := by
      rw [Nat.pow_add, Nat.mul_comm (2 ^ u), Nat.mul_mod_mul_right]
    rw [e1, e2]
    have e3 : decide (2 ^ (u + d) < 2 * (m % 2 ^ d * 2 ^ u)) = decide (2 ^ d < 2 * (m % 2 ^ d)) := by
      rw [decide_eq_decide, Nat.pow_add, Nat.mul_comm (2 ^ u), ← Nat.mul_assoc]
      exact Nat.mul_lt_mul_right hp
    have e4 : (2 ^ (u + d) == 2 * (m % 2 ^ d * 2 ^ u)) = (2 ^ d == 2 * (m % 2 ^ d)) := by
      rw [Bool.eq_iff_iff, beq_iff_eq, beq_iff_eq, Nat.pow_add, Nat.mul_comm (2 ^ u), ← Nat.mul_assoc]
      exact Nat.mul_left_inj (by omega)
    rw [e3, e4]

theorem log2_mul_pow (m u : Nat) (hm : m ≠ 0) : (m * 2 ^ u).log2 = m.log2 + u := by
  have hp := Nat.two_pow_pos u
  have h1 := (Nat.log2_eq_iff hm).1 rfl
  refine (Nat.log2_eq_iff (Nat.mul_ne_zero hm (by omega))).2 ⟨?_, ?_⟩
  · rw [Nat.pow_add]; exact Nat.mul_le_mul_right _ h1.1
  · rw [show m.log2 + u + 1 = (m.log2 + 1) + u from by omega, Nat.pow_add]
    exact (Nat.mul_lt_mul_right hp).2 h1.2

theorem rndN_zero : rndN 0 = 0 := by decide

/-- THE WORD NEAREST TO A NUMBER STANDS FOR THE NUMBER ROUNDED (where nothing overflows). -/
theorem nearest_rep (s : Bool) (m u : Nat) (h : (m * 2 ^ u).log2 < 2097) :
    Rep (double.nearest s m ((u : Int) - 1074)) ((if s then -1 else 1) * (rndN (m * 2 ^ u) : Int)) := by
  unfold Format.nearest
  by_cases hm : m = 0
  · subst hm
    simp only [if_true, Nat.zero_mul, rndN_zero]
    have := rep_word s 0 0 (by omega) (by omega) (Or.inl rfl)
    simpa using this
  · rw [if_neg hm]
    dsimp only
    rw [lp, bn, ir, fb]
    have hlog := log2_mul_pow m u hm
    have hb := cutE_bounds (m * 2 ^ u) (Nat.mul_ne_zero hm (by have := Nat.two_pow_pos u; omega))
    have hc := cut_eq s m u
    rw [hlog] at hb h
    have hlast : max ((u : Int) - 1074 + (m.log2 : Int) - ((52 : Nat) : Int)) (-1074) = ((m.log2 + u - 52 : Nat) : Int) - 1074 := by omega
    rw [hlast]
    have e1 : ((u : Int) - 1074 - (((m.log2 + u - 52 : Nat) : Int) - 1074)).toNat = u - (m.log2 + u - 52) := by omega
    have e2 : (((m.log2 + u - 52 : Nat) : Int) - 1074 - ((u : Int) - 1074)).toNat = (m.log2 + u - 52) - u := by omega
    have e3 : (((m.log2 + u - 52 : Nat) : Int) - 1074 - (-1074)).toNat = m.log2 + u - 52 := by omega
    rw [e1, e2, e3, hc]
    unfold rndN
    rw [hlog]
    generalize cutE (m * 2 ^ u) (m.log2 + u - 52) = k at *
    rw [Nat.min_eq_left (by omega)]
    have := rep_word s (m.log2 + u - 52) k hb.1 (by omega) (by
      by_cases h0 : m.log2 + u - 52 = 0
      · exact Or.inl h0
      · exact Or.inr (hb.2 (by omega)))
    rw [Int.natCast_mul, Int.natCast_pow]
    exact this

/-! ### What rounding does -/
theorem rndN_dvd (n : Nat) : rndN n % 2 ^ (n.log2 - 52) = 0 := by unfold rndN; simp
theorem rndN_err (n : Nat) : 2 * rndN n ≤ 2 * n + 2 ^ (n.log2 - 52) ∧ 2 * n ≤ 2 * rndN n + 2 ^ (n.log2 - 52) := by
  unfold rndN cutE
  have hp := Nat.two_pow_pos (n.log2 - 52)
  generalize 2 ^ (n.log2 - 52) = p at *
  have hd := Nat.div_add_mod n p
  have hm := Nat.mod_lt n hp
  rw [Nat.add_mul, Nat.mul_comm (n / p) p]
  generalize p * (n / p) = q at *
  generalize hr : n % p = r at *
  cases hb : (decide (p < 2 * r) || (p == 2 * r && n / p % 2 == 1))
  · simp only [Bool.or_eq_false_iff, decide_eq_false_iff_not] at hb
    simp only [Bool.toNat_false, Nat.zero_mul]
    omega
  · simp only [Bool.or_eq_true, decide_eq_true_eq, Bool.and_eq_true, beq_iff_eq] at hb
    simp only [Bool.toNat_true, Nat.one_mul]
    omega
theorem cutE_exact (n e : Nat) (h : n % 2 ^ e = 0) : cutE n e * 2 ^ e = n := by
  unfold cutE
  have hp := Nat.two_pow_pos e
  rw [h]
  have e1 : decide (2 ^ e < 2 * 0) = false := by simp
  have e2 : (2 ^ e == 2 * 0) = false := by simp
  rw [e1, e2]
  simp only [Bool.false_or, Bool.false_and, Bool.toNat_false, Nat.add_zero]
  have := Nat.div_add_mod n (2 ^ e)
  rw [h, Nat.add_zero, Nat.mul_comm] at this
  exact this
theorem log2_lt_of (n k : Nat) (h : n < 2 ^ k) (hk : 0 < k) : n.log2 < k := by
  by_cases hn : n = 0
  · subst hn; simpa [Nat.log2_zero] using hk
  · exact (Nat.log2_lt hn).2 h
theorem mod_pow_of_le (n e j : Nat) (h : n % 2 ^ j = 0) (he : e ≤ j) : n % 2 ^ e = 0 := by
  obtain ⟨t, rfl⟩ : ∃ t, j = e + t := ⟨j - e, by omega⟩
  rw [Nat.pow_add] at h
  have := Nat.dvd_of_mod_eq_zero h
  exact Nat.mod_eq_zero_of_dvd (Nat.dvd_trans (Nat.dvd_mul_right _ _) this)
theorem rndN_exact (n j : Nat) (h : n % 2 ^ j = 0) (hn : n ≤ 2 ^ (53 + j)) : rndN n = n := by
  unfold rndN
  apply cutE_exact
  rcases Nat.lt_or_eq_of_le hn with hlt | rfl
  · have := log2_lt_of n (53 + j) hlt (by omega)
    exact mod_pow_of_le n _ j h (by omega)
  · rw [Nat.log2_two_pow, show 53 + j - 52 = j + 1 from by omega]
    rw [show 53 + j = (j + 1) + 52 from by omega, Nat.pow_add]
    simp
theorem rndN_scale (n j : Nat) : rndN (n * 2 ^ j) = rndN n * 2 ^ j := by
  by_cases hn : n = 0
  · subst hn; simp [rndN_zero]
  · by_cases h : n.log2 < 53
    · have hlt : n < 2 ^ 53 := (Nat.log2_lt hn).1 h
      rw [rndN_exact n 0 (Nat.mod_one n) (by simpa using Nat.le_of_lt hlt)]
      refine rndN_exact _ j (by simp) ?_
      rw [Nat.pow_add]
      exact Nat.mul_le_mul_right _ (Nat.le_of_lt hlt)
    · unfold rndN
      have hl := log2_mul_pow n j hn
      rw [hl]
      have e1 : n.log2 + j - 52 = (n.log2 - 52) + j := by omega
      rw [e1]
      generalize n.log2 - 52 = e
      unfold cutE
      have hp := Nat.two_pow_pos j
      have a1 : n * 2 ^ j / 2 ^ (e + j) = n / 2 ^ e := by
        rw [Nat.pow_add, Nat.mul_div_mul_right _ _ hp]
      have a2 : n * 2 ^ j % 2 ^ (e + j) = (n % 2 ^ e) * 2 ^ j := by
        rw [Nat.pow_add, Nat.mul_mod_mul_right]
      rw [a1, a2]
      have a3 : decide (2 ^ (e + j) < 2 * (n % 2 ^ e * 2 ^ j)) = decide (2 ^ e < 2 * (n % 2 ^ e)) := by
        rw [decide_eq_decide, Nat.pow_add, ← Nat.mul_assoc]
        exact Nat.mul_lt_mul_right hp
      have a4 : (2 ^ (e + j) == 2 * (n % 2 ^ e * 2 ^ j)) = (2 ^ e == 2 * (n % 2 ^ e)) := by
        rw [Bool.eq_iff_iff, beq_iff_eq, beq_iff_eq, Nat.pow_add, ← Nat.mul_assoc]
        exact Nat.mul_left_inj (by omega)
      rw [a3, a4, Nat.pow_add, Nat.mul_assoc]

theorem rndZ_scale (a : Int) (j : Nat) : rndZ (a * 2 ^ j) = rndZ a * 2 ^ j := by
  unfold rndZ
  have hp : (0 : Int) < 2 ^ j := Int.pow_pos (by decide)
  have hab : (a * 2 ^ j).natAbs = a.natAbs * 2 ^ j := by
    rw [Int.natAbs_mul, Int.natAbs_pow]; rfl
  rw [hab, rndN_scale, Int.natCast_mul, Int.natCast_pow]
  by_cases h : a < 0
  · rw [if_pos h, if_pos (Int.mul_neg_of_neg_of_pos h hp)]; simp [Int.neg_mul]
  · rw [if_neg h, if_neg (by have := Int.mul_nonneg (by omega : 0 ≤ a) (Int.le_of_lt hp); omega)]; simp

theorem rndZ_exact (j : Nat) (a : Int) (h : a % 2 ^ j = 0) (ha : a.natAbs ≤ 2 ^ (53 + j)) : rndZ a = a := by
  unfold rndZ
  have h2 : a.natAbs % 2 ^ j = 0 := by
    have h3 : (2 ^ j : Int) ∣ a := Int.dvd_of_emod_eq_zero h
    have h4 := Int.natAbs_dvd_natAbs.2 h3
    rw [Int.natAbs_pow] at h4
    exact Nat.mod_eq_zero_of_dvd h4
  rw [rndN_exact _ j h2 ha]
  split <;> omega
theorem rndZ_in (j : Nat) (a : Int) (h1 : 2 ^ (52 + j) ≤ a.natAbs) (h2 : a.natAbs ≤ 2 ^ (53 + j)) :
    rndZ a % 2 ^ j = 0 ∧ -(2 ^ j) ≤ 2 * (rndZ a - a) ∧ 2 * (rndZ a - a) ≤ 2 ^ j := by
  have hp : (0 : Int) < 2 ^ j := Int.pow_pos (by decide)
  rcases Nat.lt_or_eq_of_le h2 with hlt | heq
  · have hl : a.natAbs.log2 = 52 + j := (Nat.log2_eq_iff (by have := Nat.two_pow_pos (52 + j); omega)).2 ⟨h1, by rw [show 52 + j + 1 = 53 + j from by omega]; exact hlt⟩
    have h3 := rndN_dvd a.natAbs
    have h4 := rndN_err a.natAbs
    rw [hl, show 52 + j - 52 = j from by omega] at h3 h4
    have hc : ((2 ^ j : Nat) : Int) = 2 ^ j := by rw [Int.natCast_pow]; rfl
    have h5 : ((rndN a.natAbs : Nat) : Int) % 2 ^ j = 0 := by rw [← hc, ← Int.natCast_emod, h3]; rfl
    unfold rndZ
    generalize rndN a.natAbs = r at *
    generalize 2 ^ j = q at *
    generalize (2 : Int) ^ j = p at *
    split
    · refine ⟨?_, by omega, by omega⟩
      exact Int.emod_eq_zero_of_dvd (Int.dvd_neg.2 (Int.dvd_of_emod_eq_zero h5))
    · exact ⟨h5, by omega, by omega⟩
  · have hd : a % 2 ^ (j + 1) = 0 := by
      have h3 : (2 ^ (j + 1) : Nat) ∣ a.natAbs := ⟨2 ^ 52, by rw [heq, ← Nat.pow_add, show j + 1 + 52 = 53 + j from by omega]⟩
      have h4 : ((2 ^ (j + 1) : Int)).natAbs ∣ a.natAbs := by rw [Int.natAbs_pow]; exact h3
      exact Int.emod_eq_zero_of_dvd (Int.natAbs_dvd_natAbs.1 h4)
    have he := rndZ_exact (j + 1) a hd (by rw [heq]; exact Nat.pow_le_pow_right (by omega) (by omega))
    rw [he]
    refine ⟨?_, by omega, by omega⟩
    have h3 := Int.dvd_of_emod_eq_zero hd
    rw [Int.pow_succ] at h3
    exact Int.emod_eq_zero_of_dvd (Int.dvd_trans (Int.dvd_mul_right _ _) h3)
end Go.Proofs.Ybulkdeha.Fl
