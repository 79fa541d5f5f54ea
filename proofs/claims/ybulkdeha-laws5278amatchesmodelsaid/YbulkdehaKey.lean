/-
  The order of doubles that are no NaN, by one whole number each; the rate of a pair as a plain function; what is the best of many rates.
-/
import Derived.Test.YbulkdehaNaN
import Derived.Test.YbulkdehaFloatOps
namespace Go.Proofs.Ybulkdeha
open Ieee Fl

def E1 : Nat := 2200
theorem E1_eq : E1 = 2200 := rfl

/-- A number that orders the data that are no NaN. -/
def keyD : Datum → Int
  | .number s m i => signed s m (i + 1074).toNat
  | .infinity s => if s then -(2 ^ E1) else 2 ^ E1
  | .nan _ _ => 0
def K (x : Nat) : Int := keyD (double.read x)

/-- what a word can be read as -/
theorem read_form (x : Nat) : (∃ (s : Bool) (m u : Nat), double.read x = .number s m ((u : Int) - 1074) ∧ m < 2 ^ 53 ∧ u < 2100) ∨ (∃ s, double.read x = .infinity s) ∨ IsN x := by
  unfold IsN Format.read
  rw [lp, bn, ir, sw]
  dsimp only
  generalize (x / 2 ^ 63 % 2 == 1) = s
  have hr : x % 2 ^ 63 < 2 ^ 63 := Nat.mod_lt _ (by decide)
  generalize x % 2 ^ 63 = r at *
  by_cases h1 : r < 2 ^ 52
  · rw [if_pos h1]
    exact Or.inl ⟨s, r, 0, by simp, by omega, by omega⟩
  · rw [if_neg h1]
    by_cases h2 : r < 2047 * 2 ^ 52
    · rw [if_pos h2]
      refine Or.inl ⟨s, 2 ^ 52 + r % 2 ^ 52, r / 2 ^ 52 - 1, ?_, by omega, by omega⟩
      congr 1
    · rw [if_neg h2]
      by_cases h3 : r = 2047 * 2 ^ 52
      · rw [if_pos h3]; exact Or.inr (Or.inl ⟨s, rfl⟩)
      · rw [if_neg h3]; exact Or.inr (Or.inr ⟨s, _, rfl⟩)

theorem not_isN_form {x : Nat} (h : ¬ IsN x) : (∃ (s : Bool) (m u : Nat), double.read x = .number s m ((u : Int) - 1074) ∧ m < 2 ^ 53 ∧ u < 2100) ∨ (∃ s, double.read x = .infinity s) := by
  rcases read_form x with h1 | h1 | h1
  · exact Or.inl h1
  · exact Or.inr h1
  · exact absurd h1 h

theorem num_lt (s : Bool) (m u : Nat) (hm : m < 2 ^ 53) (hu : u < 2100) : -(2 ^ E1 : Int) < signed s m u ∧ signed s m u < 2 ^ E1 := by
  have h : m * 2 ^ u < 2 ^ E1 := by
    have h1 : m * 2 ^ u < 2 ^ 53 * 2 ^ u := (Nat.mul_lt_mul_right (Nat.two_pow_pos u)).2 hm
    rw [← Nat.pow_add] at h1
    exact Nat.lt_of_lt_of_le h1 (Nat.pow_le_pow_right (by omega) (by have := E1_eq; omega))
  have h2 : ((m * 2 ^ u : Nat) : Int) < ((2 ^ E1 : Nat) : Int) := Int.ofNat_lt.2 h
  rw [Int.natCast_pow] at h2
  unfold signed
  rw [Nat.shiftLeft_eq]
  have h3 : (0 : Int) ≤ ((m * 2 ^ u : Nat) : Int) := by omega
  generalize ((m * 2 ^ u : Nat) : Int) = q at *
  have h4 : q < 2 ^ E1 := h2
  generalize (2 : Int) ^ E1 = t at *
  cases s
  · simp only [Bool.false_eq_true, if_false]; omega
  · simp only [if_true]; omega

theorem cmp_lt' {a b : Int} (h : a < b) : compare a b = .lt := Int.compare_eq_lt.2 h
theorem cmp_gt' {a b : Int} (h : b < a) : compare a b = .gt := Int.compare_eq_gt.2 h

theorem order_key {x y : Nat} (hx : ¬ IsN x) (hy : ¬ IsN y) : double.order x y = some (compare (K x) (K y)) := by
  unfold Format.order K
  have hp : (0 : Int) < 2 ^ E1 := Int.pow_pos (by decide)
  rcases not_isN_form hx with ⟨s, m, u, ex, hm, hu⟩ | ⟨s, ex⟩ <;> rcases not_isN_form hy with ⟨t, n, v, ey, hn, hv⟩ | ⟨t, ey⟩ <;> rw [ex, ey] <;> unfold Datum.order keyD <;> dsimp only
  · have hb : min ((u : Int) - 1074) ((v : Int) - 1074) = ((min u v : Nat) : Int) - 1074 := by omega
    rw [hb]
    have e1 : ((u : Int) - 1074 - (((min u v : Nat) : Int) - 1074)).toNat = u - min u v := by omega
    have e2 : ((v : Int) - 1074 - (((min u v : Nat) : Int) - 1074)).toNat = v - min u v := by omega
    have e3 : ((u : Int) - 1074 + 1074).toNat = u := by omega
    have e4 : ((v : Int) - 1074 + 1074).toNat = v := by omega
    rw [e1, e2, e3, e4, signed_eq, signed_eq, signed_eq, signed_eq]
    rw [← compare_mul _ _ (2 ^ min u v) (Int.pow_pos (by decide))]
    rw [Int.mul_assoc, Int.mul_assoc, Int.mul_assoc, Int.mul_assoc, ← pow_split u (min u v) (by omega), ← pow_split v (min u v) (by omega)]
  · have e3 : ((u : Int) - 1074 + 1074).toNat = u := by omega
    have := num_lt s m u hm hu
    rw [e3]
    cases t
    · simp only [Bool.false_eq_true, if_false]; rw [cmp_lt' this.2]
    · simp only [if_true]; rw [cmp_gt' this.1]
  · have e3 : ((v : Int) - 1074 + 1074).toNat = v := by omega
    have := num_lt t n v hn hv
    rw [e3]
    cases s
    · simp only [Bool.false_eq_true, if_false]; rw [cmp_gt' this.2]
    · simp only [if_true]; rw [cmp_lt' this.1]
  · generalize (2 : Int) ^ E1 = q at *
    cases s <;> cases t <;> simp only [Bool.false_eq_true, if_false, if_true]
    · rw [Int.compare_eq_eq.2 rfl]; rfl
    · rw [cmp_gt' (by omega)]; rfl
    · rw [cmp_lt' (by omega)]; rfl
    · rw [Int.compare_eq_eq.2 rfl]; rfl

/-- 'x != x' -/
def nanB (x : Nat) : Bool := FloatKind.f64.format.order x x != some .eq
theorem nanB_iff (x : Nat) : nanB x = true ↔ IsN x := by
  unfold nanB
  show (double.order x x != some .eq) = true ↔ _
  constructor
  · intro h
    rcases Classical.em (IsN x) with hn | hn
    · exact hn
    · rw [order_key hn hn, Int.compare_eq_eq.2 rfl] at h; simp at h
  · intro h
    rw [isN_order_left h]; rfl
theorem nanB_false (x : Nat) : nanB x = false ↔ ¬ IsN x := by
  rw [← nanB_iff]; cases nanB x <;> simp

/-- A number that was written is no NaN. -/
theorem write_not_nan (s : Bool) (m : Nat) (i : Int) : ¬ IsN (double.nearest s m i) := by
  rintro ⟨t, f, h⟩
  unfold Format.nearest at h
  by_cases hm : m = 0
  · rw [if_pos hm] at h
    rw [read_word s 0 (by decide), if_pos (by decide)] at h
    cases h
  · rw [if_neg hm] at h
    dsimp only at h
    rw [ir] at h
    generalize (max (i + (m.log2 : Int) - (double.fractionBits : Int)) double.leastPlace - double.leastPlace).toNat * double.binade + _ = r at h
    have hr : min r (2047 * 2 ^ 52) ≤ 2047 * 2 ^ 52 := Nat.min_le_right _ _
    generalize min r (2047 * 2 ^ 52) = q at *
    rw [read_word s q (by omega)] at h
    by_cases h1 : q < 2 ^ 52
    · rw [if_pos h1] at h; cases h
    · rw [if_neg h1] at h
      by_cases h2 : q < 2047 * 2 ^ 52
      · rw [if_pos h2] at h; cases h
      · rw [if_neg h2, if_pos (by omega)] at h; cases h
theorem inf_not_nan (s : Bool) : ¬ IsN (double.word s double.infRung) := by
  rintro ⟨t, f, h⟩
  rw [ir, read_word s _ (by decide), if_neg (by decide), if_neg (by decide), if_pos rfl] at h
  cases h
theorem div_not_nan {x y r : Nat} (h : double.div x y = some r) : ¬ IsN r := by
  unfold Format.div at h
  rw [Option.map_eq_some_iff] at h
  obtain ⟨d, hd, rfl⟩ := h
  cases d with
  | number s m i => exact write_not_nan s m i
  | infinity s => exact inf_not_nan s
  | nan s f =>
    exfalso
    generalize double.read x = a at hd
    generalize double.read y = b at hd
    unfold Datum.quotient at hd
    split at hd <;> try cases hd
    split at hd
    · split at hd <;> cases hd
    · cases hd

/-! ### The rate of a pair -/
/-- 'float64(dt) / 1e3' -/
def dtw (n : Int) : Nat := (double.div (floatOfInt .f64 n) 4652007308841189376).getD 0
theorem dtw_eq (n : Int) (h : -9223372036854775808 ≤ n ∧ n ≤ 9223372036854775807) : double.div (floatOfInt .f64 n) 4652007308841189376 = some (dtw n) := by
  have p64 : (2 : Nat) ^ 64 = 18446744073709551616 := by decide
  obtain ⟨s, m, u, hx, _⟩ : Rep (floatOfInt .f64 n) _ := ofInt_rep n (by omega)
  have h2 : double.read 4652007308841189376 = .number false 8796093022208000 (-43) := by decide +kernel
  have : ∃ r, double.div (floatOfInt .f64 n) 4652007308841189376 = some r := by
    unfold Format.div
    rw [hx, h2]
    unfold Datum.quotient
    dsimp only
    rw [if_neg (by decide)]
    exact ⟨_, rfl⟩
  obtain ⟨r, hr⟩ := this
  unfold dtw
  rw [hr]; rfl

/-- A counter's growth from the value a to the value b (no answer: a NaN). -/
def chg (a b : Nat) : Option Nat := if FloatKind.f64.format.order b a == some .lt then some b else double.sub b a
/-- A sample: its time, its value's bits. -/
abbrev Smp := Int × Nat
/-- The rate of a pair (no answer: a NaN). -/
def rt (p q : Smp) : Option Nat := (chg p.2 q.2).bind fun c => double.div c (dtw (Go.RowKit.wrap64 (q.1 - p.1)))

/-- The word r is what 'o' tells: that very number, or some NaN. -/
def RtOk (o : Option Nat) (r : Nat) : Prop := match o with
  | some x => r = x ∧ ¬ IsN x
  | none => IsN r

theorem rt_some {p q : Smp} {r : Nat} (h : rt p q = some r) : ¬ IsN r := by
  unfold rt at h
  rw [Option.bind_eq_some_iff] at h
  obtain ⟨c, _, h⟩ := h
  exact div_not_nan h

/-- The best of the rates 'ro': a NaN if there is one among them; else one of them, and no smaller than any. -/
def Best (ro : List (Option Nat)) (v : Nat) : Prop :=
  (none ∈ ro → IsN v) ∧ (none ∉ ro → some v ∈ ro ∧ ¬ IsN v ∧ ∀ r, some r ∈ ro → K r ≤ K v)
end Go.Proofs.Ybulkdeha
