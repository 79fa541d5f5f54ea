/-
  Sums, products, quotients by powers of two, comparisons and conversions of doubles, on what the words stand for.
-/
import Derived.Test.YbulkdehaFloat
namespace Go.Proofs.Ybulkdeha.Fl
open Ieee

/-- The unit: a whole number n stands in a word as 'n * 2 ^ E0'. -/
def E0 : Nat := 1074
theorem E0_eq : E0 = 1074 := rfl

/-- As 'Rep', of what has been read. -/
def RepD (d : Datum) (a : Int) : Prop :=
  ∃ (s : Bool) (m u : Nat), d = .number s m ((u : Int) - 1074) ∧ m < 2 ^ 53 ∧ (2 ^ 52 ≤ m ∨ u = 0) ∧ a = (if s then -1 else 1) * ((m : Int) * 2 ^ u)

theorem rep_read {x : Nat} {a : Int} (h : Rep x a) : RepD (double.read x) a := h
theorem RepD.opposite {d : Datum} {a : Int} (h : RepD d a) : RepD d.opposite (-a) := by
  obtain ⟨s, m, u, rfl, h1, h2, rfl⟩ := h
  refine ⟨!s, m, u, rfl, h1, h2, ?_⟩
  cases s <;> simp

theorem natAbs_scale (a : Int) (p : Nat) : (a * 2 ^ p).natAbs = a.natAbs * 2 ^ p := by
  rw [Int.natAbs_mul, Int.natAbs_pow]; rfl

theorem sgn_abs (t : Int) (p : Nat) : (if decide (t < 0) = true then (-1 : Int) else 1) * ((rndN (t.natAbs * 2 ^ p) : Nat) : Int) = rndZ (t * 2 ^ p) := by
  unfold rndZ
  have hp : (0 : Int) < 2 ^ p := Int.pow_pos (by decide)
  have hab : (t * 2 ^ p).natAbs = t.natAbs * 2 ^ p := by
    rw [Int.natAbs_mul, Int.natAbs_pow]; rfl
  rw [hab]
  by_cases h : t < 0
  · rw [if_pos (by simpa using h), if_pos (Int.mul_neg_of_neg_of_pos h hp)]; simp
  · rw [if_neg (by simpa using h), if_neg (by have := Int.mul_nonneg (by omega : 0 ≤ t) (Int.le_of_lt hp); omega)]; simp

theorem pow_split (u v : Nat) (h : v ≤ u) : (2 : Int) ^ u = 2 ^ (u - v) * 2 ^ v := by
  rw [← Int.pow_add]; congr 1; omega

/-- The exact sum of two finite data, written. -/
theorem sum_rep {d e : Datum} {a b : Int} (hd : RepD d a) (he : RepD e b) (hs : (a + b).natAbs.log2 < 2097) :
    ∃ z, (d.sum e).map double.write = some z ∧ Rep z (rndZ (a + b)) := by
  obtain ⟨s, m, u, rfl, _, _, rfl⟩ := hd
  obtain ⟨t, n, v, rfl, _, _, rfl⟩ := he
  unfold Datum.sum
  dsimp only [Option.map_some]
  refine ⟨_, rfl, ?_⟩
  have hb : min ((u : Int) - 1074) ((v : Int) - 1074) = ((min u v : Nat) : Int) - 1074 := by omega
  rw [hb]
  have e1 : ((u : Int) - 1074 - (((min u v : Nat) : Int) - 1074)).toNat = u - min u v := by omega
  have e2 : ((v : Int) - 1074 - (((min u v : Nat) : Int) - 1074)).toNat = v - min u v := by omega
  rw [e1, e2, signed_eq, signed_eq]
  have htot : ((if s = true then (-1 : Int) else 1) * ((m : Int) * 2 ^ (u - min u v)) + (if t = true then (-1 : Int) else 1) * ((n : Int) * 2 ^ (v - min u v))) * 2 ^ (min u v)
      = (if s = true then (-1 : Int) else 1) * ((m : Int) * 2 ^ u) + (if t = true then (-1 : Int) else 1) * ((n : Int) * 2 ^ v) := by
    rw [Int.add_mul, Int.mul_assoc, Int.mul_assoc, Int.mul_assoc, Int.mul_assoc, ← pow_split u (min u v) (by omega), ← pow_split v (min u v) (by omega)]
  rw [← htot] at hs ⊢
  generalize (if s = true then (-1 : Int) else 1) * ((m : Int) * 2 ^ (u - min u v)) + (if t = true then (-1 : Int) else 1) * ((n : Int) * 2 ^ (v - min u v)) = tot at *
  generalize min u v = p at *
  have hab : (tot * 2 ^ p).natAbs = tot.natAbs * 2 ^ p := by
    rw [Int.natAbs_mul, Int.natAbs_pow]; rfl
  rw [hab] at hs
  show Rep (double.nearest _ _ _) _
  by_cases h0 : tot = 0
  · subst h0
    have := nearest_rep (s && t) 0 p (by simp [Nat.log2_zero])
    simp only [if_true, Int.natAbs_zero]
    rw [Nat.zero_mul, rndN_zero] at this
    simp only [Int.zero_mul]
    rw [show rndZ 0 = 0 from by decide]
    simpa using this
  · rw [if_neg h0, ← sgn_abs]
    exact nearest_rep _ _ _ hs

theorem add_rep {x y : Nat} {a b : Int} (hx : Rep x a) (hy : Rep y b) (hs : (a + b).natAbs.log2 < 2097) :
    ∃ z, double.add x y = some z ∧ Rep z (rndZ (a + b)) := sum_rep (rep_read hx) (rep_read hy) hs
theorem sub_rep {x y : Nat} {a b : Int} (hx : Rep x a) (hy : Rep y b) (hs : (a - b).natAbs.log2 < 2097) :
    ∃ z, double.sub x y = some z ∧ Rep z (rndZ (a - b)) := by
  have := sum_rep (rep_read hx) (rep_read hy).opposite (by rw [← Int.sub_eq_add_neg]; exact hs)
  rw [← Int.sub_eq_add_neg] at this
  exact this

theorem compare_mul (a b c : Int) (hc : 0 < c) : compare (a * c) (b * c) = compare a b := by
  simp only [compare, compareOfLessAndEq]
  have h1 : a * c < b * c ↔ a < b := Int.mul_lt_mul_right hc
  have h2 : a * c = b * c ↔ a = b := Int.mul_eq_mul_right_iff (by omega)
  simp only [h1, h2]

theorem order_rep {x y : Nat} {a b : Int} (hx : Rep x a) (hy : Rep y b) : double.order x y = some (compare a b) := by
  obtain ⟨s, m, u, hx, _, _, rfl⟩ := hx
  obtain ⟨t, n, v, hy, _, _, rfl⟩ := hy
  unfold Format.order
  rw [hx, hy]
  unfold Datum.order
  dsimp only
  have hb : min ((u : Int) - 1074) ((v : Int) - 1074) = ((min u v : Nat) : Int) - 1074 := by omega
  rw [hb]
  have e1 : ((u : Int) - 1074 - (((min u v : Nat) : Int) - 1074)).toNat = u - min u v := by omega
  have e2 : ((v : Int) - 1074 - (((min u v : Nat) : Int) - 1074)).toNat = v - min u v := by omega
  rw [e1, e2, signed_eq, signed_eq]
  rw [← compare_mul _ _ (2 ^ min u v) (Int.pow_pos (by decide))]
  rw [Int.mul_assoc, Int.mul_assoc, Int.mul_assoc, Int.mul_assoc, ← pow_split u (min u v) (by omega), ← pow_split v (min u v) (by omega)]

/-- A finite word that stands for a whole number: 'int64(x)' cuts nothing. -/
theorem toInt_rep {x : Nat} {n : Int} (hx : Rep x (n * 2 ^ E0)) : (double.read x).toInt .zero = some n := by
  obtain ⟨s, m, u, hx, _, _, he⟩ := hx
  rw [hx]
  unfold Datum.toInt Datum.integral
  dsimp only
  rw [signed_eq]
  unfold Toward.cut
  dsimp only
  simp only [Bool.toNat_false, Nat.add_zero, Int.pow_zero, Int.mul_one]
  rw [Option.some.injEq]
  have hn : n = (if s then -1 else 1) * (n.natAbs : Int) ∧ n.natAbs * 2 ^ E0 = m * 2 ^ u := by
    have h1 : (n * 2 ^ E0).natAbs = n.natAbs * 2 ^ E0 := natAbs_scale n E0
    have h2 : ((if s then (-1 : Int) else 1) * ((m : Int) * 2 ^ u)).natAbs = m * 2 ^ u := by
      have : (((m : Int) * 2 ^ u)).natAbs = m * 2 ^ u := natAbs_scale m u
      rw [Int.natAbs_mul, this]; cases s <;> simp
    refine ⟨?_, by rw [← h1, ← h2, he]⟩
    have hp : (0 : Int) < 2 ^ E0 := Int.pow_pos (by decide)
    have hq : (0 : Int) ≤ (m : Int) * 2 ^ u := Int.mul_nonneg (by omega) (Int.le_of_lt (Int.pow_pos (by decide)))
    generalize (2 : Int) ^ 1074 = c at *
    generalize (m : Int) * 2 ^ u = q at *
    cases s
    · simp only [Bool.false_eq_true, if_false, Int.one_mul] at he ⊢
      have : 0 ≤ n := by
        rcases Int.lt_or_le n 0 with h | h
        · have := Int.mul_neg_of_neg_of_pos h hp; omega
        · exact h
      omega
    · simp only [if_true] at he ⊢
      have : n ≤ 0 := by
        rcases Int.lt_or_le 0 n with h | h
        · have := Int.mul_pos h hp; omega
        · exact h
      omega
  obtain ⟨hn1, hn2⟩ := hn
  refine Eq.trans ?_ hn1.symm
  clear hn1 he
  generalize n.natAbs = k at *
  refine congrArg (fun z : Nat => (if s = true then (-1 : Int) else 1) * (z : Int)) ?_
  have hE := E0_eq
  by_cases h : 1074 ≤ u
  · obtain ⟨v, rfl⟩ : ∃ v, u = v + E0 := ⟨u - 1074, by omega⟩
    have e1 : (((v + E0 : Nat) : Int) - 1074).toNat = v := by omega
    have e2 : (-(((v + E0 : Nat) : Int) - 1074)).toNat = 0 := by omega
    rw [e1, e2, Nat.zero_min, Nat.shiftLeft_zero, Nat.div_one, Nat.shiftLeft_eq]
    rw [Nat.pow_add, ← Nat.mul_assoc] at hn2
    exact (Nat.eq_of_mul_eq_mul_right (Nat.two_pow_pos E0) hn2).symm
  · obtain ⟨v, hv⟩ : ∃ v, E0 = v + u := ⟨1074 - u, by omega⟩
    have e1 : ((u : Int) - 1074).toNat = 0 := by omega
    have e2 : (-((u : Int) - 1074)).toNat = v := by omega
    rw [e1, e2, Nat.shiftLeft_zero]
    rw [hv, Nat.pow_add, ← Nat.mul_assoc] at hn2
    have hm := Nat.eq_of_mul_eq_mul_right (Nat.two_pow_pos u) hn2
    by_cases hk : k = 0
    · subst hk; simp at hm; subst hm; simp
    · have hlog : v ≤ m.log2 := by
        rw [← hm]
        have := log2_mul_pow k v hk
        omega
      rw [Nat.min_eq_left (by omega), Nat.shiftLeft_eq, Nat.one_mul, ← hm, Nat.mul_div_cancel _ (Nat.two_pow_pos v)]


theorem log2_scale (a : Int) (b j : Nat) (h : a.natAbs < 2 ^ b) (hb : 0 < b) : (a * 2 ^ j).natAbs.log2 < b + j := by
  rw [natAbs_scale]
  by_cases h0 : a.natAbs = 0
  · rw [h0]; simp [Nat.log2_zero]; omega
  · rw [log2_mul_pow _ _ h0]
    have := log2_lt_of a.natAbs b h hb
    omega

/-- 'float64(n)' -/
theorem ofInt_rep (n : Int) (h : n.natAbs < 2 ^ 64) : Rep (double.write (.number (decide (n < 0)) n.natAbs 0)) (rndZ n * 2 ^ E0) := by
  show Rep (double.nearest _ _ _) _
  have h1 := nearest_rep (decide (n < 0)) n.natAbs E0 (by
    have := log2_scale n 64 E0 h (by omega)
    rw [natAbs_scale] at this
    have hE := E0_eq
    omega)
  rw [sgn_abs, rndZ_scale] at h1
  have hE : ((E0 : Nat) : Int) - 1074 = 0 := by rw [E0_eq]; rfl
  rw [hE] at h1
  exact h1

theorem norm_of {s : Bool} {m u : Nat} {n : Int} (hm : m < 2 ^ 53) (hn : 2 ^ 52 ≤ m ∨ u = 0) (he : n * 2 ^ E0 = (if s then -1 else 1) * ((m : Int) * 2 ^ u)) (h0 : m ≠ 0) : 2 ^ 52 ≤ m ∧ 1022 ≤ u := by
  have h2 : ((if s then (-1 : Int) else 1) * ((m : Int) * 2 ^ u)).natAbs = m * 2 ^ u := by
    have : (((m : Int) * 2 ^ u)).natAbs = m * 2 ^ u := natAbs_scale m u
    rw [Int.natAbs_mul, this]; cases s <;> simp
  have h3 : n.natAbs * 2 ^ E0 = m * 2 ^ u := by rw [← h2, ← he, natAbs_scale]
  have hn0 : n.natAbs ≠ 0 := by
    intro h
    rw [h, Nat.zero_mul] at h3
    have := Nat.mul_ne_zero h0 (by have := Nat.two_pow_pos u; omega : 2 ^ u ≠ 0)
    exact this h3.symm
  have hu : 1022 ≤ u := by
    have l1 := log2_mul_pow n.natAbs E0 hn0
    have l2 := log2_mul_pow m u h0
    rw [h3, l2] at l1
    have l3 := log2_lt_of m 53 hm (by omega)
    have hE := E0_eq
    omega
  exact ⟨by rcases hn with h | h <;> omega, hu⟩

/-- the word of 2^k -/
def pw (k : Nat) : Nat := (1023 + k) * 2 ^ 52
theorem pw_read (k : Nat) (hk : k ≤ 1000) : double.read (pw k) = .number false (2 ^ 52) (((k + 1022 : Nat) : Int) - 1074) := by
  have h := read_word false (pw k) (by unfold pw; omega)
  have hw : double.word false (pw k) = pw k := rfl
  rw [hw, if_neg (by unfold pw; omega), if_pos (by unfold pw; omega)] at h
  rw [h]
  have e1 : pw k % 2 ^ 52 = 0 := by unfold pw; omega
  have e2 : pw k / 2 ^ 52 - 1 = k + 1022 := by unfold pw; omega
  rw [e1, e2, Nat.add_zero]
  congr 1
theorem pw_rep (k : Nat) (hk : k ≤ 1000) : Rep (pw k) (2 ^ k * 2 ^ E0) := by
  refine ⟨false, 2 ^ 52, k + 1022, pw_read k hk, by omega, Or.inl (Nat.le_refl _), ?_⟩
  simp only [Bool.false_eq_true, if_false, Int.one_mul]
  have hc : ((2 ^ 52 : Nat) : Int) = 2 ^ 52 := by rw [Int.natCast_pow]; rfl
  rw [hc, ← Int.pow_add, ← Int.pow_add, show 52 + (k + 1022) = k + E0 from by rw [E0_eq]; omega]

theorem mul_pw {x : Nat} {n : Int} (k : Nat) (hk : k ≤ 100) (hx : Rep x (n * 2 ^ E0)) (hn : n.natAbs < 2 ^ 100) :
    ∃ z, double.mul x (pw k) = some z ∧ Rep z (rndZ (n * 2 ^ k) * 2 ^ E0) := by
  obtain ⟨s, m, u, hx, hm, hnn, he⟩ := hx
  unfold Format.mul
  rw [hx, pw_read k (by omega)]
  unfold Datum.product
  dsimp only [Option.map_some]
  refine ⟨_, rfl, ?_⟩
  show Rep (double.nearest _ _ _) _
  by_cases h0 : m = 0
  · subst h0
    have hn0 : n = 0 := by
      have h1 : n * 2 ^ E0 = 0 := by rw [he]; simp
      rcases Int.mul_eq_zero.1 h1 with h | h
      · exact h
      · exact absurd h (by have : (0 : Int) < 2 ^ E0 := Int.pow_pos (by decide); omega)
    subst hn0
    rw [Nat.zero_mul, Int.zero_mul, show rndZ 0 = 0 from by decide, Int.zero_mul]
    unfold Format.nearest
    rw [if_pos rfl]
    have := rep_word (s ^^ false) 0 0 (by omega) (by omega) (Or.inl rfl)
    simpa using this
  · obtain ⟨hm52, hu⟩ := norm_of hm hnn he h0
    have hp : (u : Int) - 1074 + (((k + 1022 : Nat) : Int) - 1074) = ((u + k - 52 : Nat) : Int) - 1074 := by omega
    rw [hp, Bool.xor_false]
    have hval : m * 2 ^ 52 * 2 ^ (u + k - 52) = (n * 2 ^ k * 2 ^ E0).natAbs := by
      rw [Int.mul_assoc, Int.mul_comm (2 ^ k), ← Int.mul_assoc, he, Int.mul_assoc, Int.mul_assoc, ← Int.pow_add, Int.natAbs_mul, natAbs_scale]
      rw [Nat.mul_assoc, ← Nat.pow_add, show 52 + (u + k - 52) = u + k from by omega]
      cases s <;> simp
    have h1 := nearest_rep s (m * 2 ^ 52) (u + k - 52) (by
      rw [hval, Int.mul_assoc, ← Int.pow_add]
      have := log2_scale n 100 (k + E0) hn (by omega)
      have hE := E0_eq
      omega)
    rw [hval] at h1
    have hsg : (if s = true then (-1 : Int) else 1) * ((rndN (n * 2 ^ k * 2 ^ E0).natAbs : Nat) : Int) = rndZ (n * 2 ^ k * 2 ^ E0) := by
      have hneg : (n * 2 ^ k * 2 ^ E0 < 0) ↔ s = true := by
        have hpos : (0 : Int) < (m : Int) * 2 ^ u := Int.mul_pos (by omega) (Int.pow_pos (by decide))
        have hk2 : (0 : Int) < 2 ^ k := Int.pow_pos (by decide)
        rw [Int.mul_assoc, Int.mul_comm (2 ^ k), ← Int.mul_assoc, he]
        have := Int.mul_pos hpos hk2
        cases s
        · simp only [Bool.false_eq_true, if_false, Int.one_mul, iff_false]; omega
        · simp only [if_true, iff_true]; rw [Int.mul_assoc]; omega
      unfold rndZ
      by_cases hs : s = true
      · rw [if_pos hs, if_pos (hneg.2 hs)]; omega
      · rw [if_neg hs, if_neg (fun h => hs (hneg.1 h))]; omega
    rw [hsg, rndZ_scale] at h1
    exact h1

theorem div_pw {x : Nat} {n : Int} (k : Nat) (hk : k ≤ 100) (hx : Rep x (n * 2 ^ k * 2 ^ E0)) (hn : n.natAbs < 2 ^ 100) :
    ∃ z, double.div x (pw k) = some z ∧ Rep z (rndZ n * 2 ^ E0) := by
  obtain ⟨s, m, u, hx, hm, hnn, he⟩ := hx
  unfold Format.div
  rw [hx, pw_read k (by omega)]
  unfold Datum.quotient
  dsimp only
  rw [if_neg (by decide), Option.map_some]
  refine ⟨_, rfl, ?_⟩
  show Rep (double.nearest _ _ _) _
  by_cases h0 : m = 0
  · subst h0
    have hn0 : n = 0 := by
      have h1 : n * (2 ^ k * 2 ^ E0) = 0 := by rw [← Int.mul_assoc, he]; simp
      rcases Int.mul_eq_zero.1 h1 with h | h
      · exact h
      · have a1 : (0 : Int) < 2 ^ E0 := Int.pow_pos (by decide)
        have a2 : (0 : Int) < 2 ^ k := Int.pow_pos (by decide)
        have := Int.mul_pos a2 a1
        omega
    subst hn0
    rw [show rndZ 0 = 0 from by decide, Int.zero_mul]
    have e0 : 2 * (0 <<< (double.fractionBits + 2 + (2 ^ 52).log2 - Nat.log2 0) / 2 ^ 52) + (0 <<< (double.fractionBits + 2 + (2 ^ 52).log2 - Nat.log2 0) % 2 ^ 52 != 0).toNat = 0 := by
      simp
    rw [e0]
    unfold Format.nearest
    rw [if_pos rfl]
    have := rep_word (s ^^ false) 0 0 (by omega) (by omega) (Or.inl rfl)
    simpa using this
  · have he2 : (n * 2 ^ k) * 2 ^ E0 = (if s then -1 else 1) * ((m : Int) * 2 ^ u) := he
    obtain ⟨hm52, hu⟩ := norm_of hm hnn he2 h0
    have hlog : m.log2 = 52 := (Nat.log2_eq_iff h0).2 ⟨hm52, hm⟩
    have hlog2 : (2 ^ 52).log2 = 52 := Nat.log2_two_pow
    have hku : k + 1022 ≤ u := by
      have l2 := log2_mul_pow m u h0
      have h2 : ((if s then (-1 : Int) else 1) * ((m : Int) * 2 ^ u)).natAbs = m * 2 ^ u := by
        have : (((m : Int) * 2 ^ u)).natAbs = m * 2 ^ u := natAbs_scale m u
        rw [Int.natAbs_mul, this]; cases s <;> simp
      have h3 : n.natAbs * 2 ^ (k + E0) = m * 2 ^ u := by rw [← h2, ← he, Int.mul_assoc, ← Int.pow_add, natAbs_scale]
      have hn0 : n.natAbs ≠ 0 := by
        intro h
        rw [h, Nat.zero_mul] at h3
        have := Nat.mul_ne_zero h0 (by have := Nat.two_pow_pos u; omega : 2 ^ u ≠ 0)
        exact this h3.symm
      have l1 := log2_mul_pow n.natAbs (k + E0) hn0
      rw [h3, l2, hlog] at l1
      have hE := E0_eq
      omega
    rw [hlog, hlog2, fb, Bool.xor_false]
    have hmore : 52 + 2 + 52 - 52 = 54 := rfl
    rw [hmore, Nat.shiftLeft_eq]
    have hdv : m * 2 ^ 54 / 2 ^ 52 = m * 4 := by omega
    have hmd : m * 2 ^ 54 % 2 ^ 52 = 0 := by omega
    rw [hdv, hmd]
    have hmg : 2 * (m * 4) + ((0 : Nat) != 0).toNat = m * 2 ^ 3 := by simp; omega
    rw [hmg]
    have hp : (u : Int) - 1074 - (((k + 1022 : Nat) : Int) - 1074) - ((54 : Nat) : Int) - 1 = ((u - k - 3 : Nat) : Int) - 1074 := by omega
    rw [hp]
    have hk2 : (0 : Int) < 2 ^ k := Int.pow_pos (by decide)
    have hn3 : n * 2 ^ E0 = (if s then -1 else 1) * ((m : Int) * 2 ^ (u - k)) := by
      have h5 : (n * 2 ^ E0) * 2 ^ k = ((if s then -1 else 1) * ((m : Int) * 2 ^ (u - k))) * 2 ^ k := by
        rw [Int.mul_assoc, Int.mul_comm (2 ^ E0), ← Int.mul_assoc, he, Int.mul_assoc, Int.mul_assoc, ← Int.pow_add, show u - k + k = u from by omega]
      exact Int.eq_of_mul_eq_mul_right (by omega) h5
    have hval : m * 2 ^ 3 * 2 ^ (u - k - 3) = (n * 2 ^ E0).natAbs := by
      rw [hn3, Int.natAbs_mul, natAbs_scale, Nat.mul_assoc, ← Nat.pow_add, show 3 + (u - k - 3) = u - k from by omega]
      cases s <;> simp
    have h1 := nearest_rep s (m * 2 ^ 3) (u - k - 3) (by
      rw [hval]
      have := log2_scale n 100 E0 hn (by omega)
      have hE := E0_eq
      omega)
    rw [hval] at h1
    have hsg : (if s = true then (-1 : Int) else 1) * ((rndN (n * 2 ^ E0).natAbs : Nat) : Int) = rndZ (n * 2 ^ E0) := by
      have hneg : (n * 2 ^ E0 < 0) ↔ s = true := by
        have hpos : (0 : Int) < (m : Int) * 2 ^ (u - k) := Int.mul_pos (by omega) (Int.pow_pos (by decide))
        rw [hn3]
        cases s
        · simp only [Bool.false_eq_true, if_false, Int.one_mul, iff_false]; omega
        · simp only [if_true, iff_true]; omega
      unfold rndZ
      by_cases hs : s = true
      · rw [if_pos hs, if_pos (hneg.2 hs)]; omega
      · rw [if_neg hs, if_neg (fun h => hs (hneg.1 h))]; omega
    rw [hsg, rndZ_scale] at h1
    exact h1
end Go.Proofs.Ybulkdeha.Fl
