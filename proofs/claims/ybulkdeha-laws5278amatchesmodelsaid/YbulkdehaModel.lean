/-
  What LawS5278AMatchesModel builds and reckons: plain definitions and laws.
-/
import Derived.Test.YbulkdehaLastPair
import Derived.Test.YbulkdehaSorted
namespace Go.Proofs.Ybulkdeha
open Go.RowKit
open Ieee

/-- the time of sample i: the start, and the steps added, held at the greatest int64 -/
def tms (t0 : Int) (zs : List Int) : Nat → Int
  | 0 => t0
  | i + 1 => if 9223372036854775807 - zs.getD (i + 1) 0 < tms t0 zs i then 9223372036854775807 else tms t0 zs i + zs.getD (i + 1) 0
/-- the samples that the law builds -/
def mk (t0 : Int) (zs : List Int) (fs : List Nat) (n : Nat) : List Smp := (List.range n).map fun i => (tms t0 zs i, fs.getD i 0)

theorem mk_length (t0 : Int) (zs : List Int) (fs : List Nat) (n : Nat) : (mk t0 zs fs n).length = n := by simp [mk]
theorem mk_getD (t0 : Int) (zs : List Int) (fs : List Nat) (n i : Nat) (h : i < n) : (mk t0 zs fs n).getD i (0, 0) = (tms t0 zs i, fs.getD i 0) := by
  simp [mk, List.getD, h]
theorem tms_bounds (t0 : Int) (zs : List Int) (h1 : -9223372036854775808 ≤ t0) (h2 : t0 ≤ 9223372036854775807) (n : Nat) (hz : ∀ i, i < n → 0 ≤ zs.getD i 0) : ∀ i, i < n → -9223372036854775808 ≤ tms t0 zs i ∧ tms t0 zs i ≤ 9223372036854775807
  | 0, _ => ⟨h1, h2⟩
  | i + 1, hi => by
    have ih := tms_bounds t0 zs h1 h2 n hz i (by omega)
    have hd := hz (i + 1) hi
    rw [tms]
    split <;> omega
theorem tms_mono (t0 : Int) (zs : List Int) (h1 : -9223372036854775808 ≤ t0) (h2 : t0 ≤ 9223372036854775807) (n : Nat) (hz : ∀ i, i < n → 0 ≤ zs.getD i 0) (i : Nat) : ∀ j, i ≤ j → j < n → tms t0 zs i ≤ tms t0 zs j
  | 0, hij, _ => by
    obtain rfl : i = 0 := by omega
    exact Int.le_refl _
  | j + 1, hij, hj => by
    rcases Nat.lt_or_ge i (j + 1) with h | h
    · have ih := tms_mono t0 zs h1 h2 n hz i j (by omega) (by omega)
      have hb := tms_bounds t0 zs h1 h2 n hz j (by omega)
      have hd := hz (j + 1) hj
      rw [tms]
      split <;> omega
    · obtain rfl : i = j + 1 := by omega
      exact Int.le_refl _
theorem mk_sorted (t0 : Int) (zs : List Int) (fs : List Nat) (h1 : -9223372036854775808 ≤ t0) (h2 : t0 ≤ 9223372036854775807) (n : Nat) (hz : ∀ i, i < n → 0 ≤ zs.getD i 0) : Sorted (mk t0 zs fs n) := by
  intro i j hij hj
  rw [mk_length] at hj
  unfold tm
  rw [mk_getD t0 zs fs n i (by omega), mk_getD t0 zs fs n j hj]
  exact tms_mono t0 zs h1 h2 n hz i j hij hj
theorem mk_tm (t0 : Int) (zs : List Int) (fs : List Nat) (h1 : -9223372036854775808 ≤ t0) (h2 : t0 ≤ 9223372036854775807) (n : Nat) (hz : ∀ i, i < n → 0 ≤ zs.getD i 0) (i : Nat) (hi : i < (mk t0 zs fs n).length) : -9223372036854775808 ≤ tm (mk t0 zs fs n) i := by
  rw [mk_length] at hi
  unfold tm
  rw [mk_getD t0 zs fs n i hi]
  exact (tms_bounds t0 zs h1 h2 n hz i hi).1

/-- The first k samples lie in the row L. -/
def Filled (t0 : Int) (zs : List Int) (fs : List Nat) (k : Nat) (L : List Value) : Prop :=
  ∀ i, i < k → L[i * 2]? = some (.int .i64 (tms t0 zs i)) ∧ L[i * 2 + 1]? = some (.float .f64 (fs.getD i 0))

theorem Filled.next {t0 : Int} {zs : List Int} {fs : List Nat} {k n : Nat} {L : List Value} (h : Filled t0 zs fs k L) (hL : L.length = n * 2) (hk : k < n) :
    Filled t0 zs fs (k + 1) ((L.set (k * 2) (.int .i64 (tms t0 zs k))).set (k * 2 + 1) (.float .f64 (fs.getD k 0))) := by
  intro i hi
  by_cases hik : i = k
  · subst hik
    refine ⟨?_, ?_⟩
    · rw [List.getElem?_set_ne (by omega), List.getElem?_set_self (by omega)]
    · rw [List.getElem?_set_self (by simp; omega)]
  · have := h i (by omega)
    refine ⟨?_, ?_⟩
    · rw [List.getElem?_set_ne (by omega), List.getElem?_set_ne (by omega)]; exact this.1
    · rw [List.getElem?_set_ne (by omega), List.getElem?_set_ne (by omega)]; exact this.2

theorem filled_lies {w : World} {B g n : Nat} {t0 : Int} {zs : List Int} {fs : List Nat} {L : List Value} (hown : w.ownsRow B 28 2 (.slice (some ⟨g, 0, none⟩) n n) n L) (h : Filled t0 zs fs n L) : Lies w (some ⟨g, 0, none⟩) (mk t0 zs fs n) := by
  refine Or.inr ⟨g, 0, rfl, (hown.lt g rfl).2, fun i hi => ?_⟩
  rw [mk_length] at hi
  have h1 := h i hi
  have h2 : (mk t0 zs fs n)[i]'(by rw [mk_length]; exact hi) = (tms t0 zs i, fs.getD i 0) := by simp [mk]
  rw [h2, Nat.zero_add, hown.cellAt (i * 2) (by omega), hown.cellAt (i * 2 + 1) (by omega)]
  exact h1

/-- What the model's loop holds of the rates seen so far. -/
def Mod (ro : List (Option Nat)) (best : Nat) (nan : Bool) : Prop :=
  (nan = true ↔ none ∈ ro) ∧ (none ∉ ro → ro ≠ [] → some best ∈ ro ∧ ¬ IsN best ∧ ∀ r, some r ∈ ro → K r ≤ K best)

theorem Mod.start : Mod [] 0 false := ⟨by simp, fun _ h => absurd rfl h⟩
theorem Mod.nan {ro : List (Option Nat)} {best : Nat} {nan : Bool} {o : Option Nat} {r : Nat} (_h : Mod ro best nan) (ho : RtOk o r) (hr : nanB r = true) : Mod (ro ++ [o]) best true := by
  have : o = none := by
    cases o with
    | none => rfl
    | some x => rw [nanB_iff, ho.1] at hr; exact absurd hr ho.2
  subst this
  exact ⟨by simp, fun h => absurd (by simp) h⟩
theorem Mod.take {ro : List (Option Nat)} {best : Nat} {nan : Bool} {o : Option Nat} {r : Nat} (h : Mod ro best nan) (ho : RtOk o r) (hr : nanB r = false) (hb : ro = [] ∨ (FloatKind.f64.format.order r best == some .gt) = true) : Mod (ro ++ [o]) r nan := by
  rw [nanB_false] at hr
  have : o = some r := by
    cases o with
    | none => exact absurd ho hr
    | some x => rw [ho.1]
  subst this
  refine ⟨by rw [h.1]; simp, fun hn _ => ⟨by simp, hr, fun r' hr' => ?_⟩⟩
  rcases List.mem_append.1 hr' with hm | hm
  · have hne : ro ≠ [] := by intro e; rw [e] at hm; simp at hm
    have h2 := h.2 (fun e => hn (List.mem_append_left _ e)) hne
    rcases hb with hb | hb
    · exact absurd hb hne
    · rw [gt_key hr h2.2.1, decide_eq_true_eq] at hb
      have := h2.2.2 r' hm
      omega
  · simp at hm; rw [hm]; exact Int.le_refl _
theorem Mod.leave {ro : List (Option Nat)} {best : Nat} {nan : Bool} {o : Option Nat} {r : Nat} (h : Mod ro best nan) (ho : RtOk o r) (hr : nanB r = false) (hne : ro ≠ []) (hb : (FloatKind.f64.format.order r best == some .gt) = false) : Mod (ro ++ [o]) best nan := by
  rw [nanB_false] at hr
  have : o = some r := by
    cases o with
    | none => exact absurd ho hr
    | some x => rw [ho.1]
  subst this
  refine ⟨by rw [h.1]; simp, fun hn _ => ?_⟩
  have h2 := h.2 (fun e => hn (List.mem_append_left _ e)) hne
  refine ⟨List.mem_append_left _ h2.1, h2.2.1, fun r' hr' => ?_⟩
  rcases List.mem_append.1 hr' with hm | hm
  · exact h2.2.2 r' hm
  · simp at hm
    rw [gt_key hr h2.2.1, decide_eq_false_iff_not] at hb
    rw [hm]; omega

/-- The model's best is RateMax's. -/
theorem mod_nan {ro : List (Option Nat)} {best v : Nat} (h : Mod ro best true) (hb : Best ro v) : nanB v = true := by
  rw [nanB_iff]; exact hb.1 (h.1.1 rfl)
theorem mod_eq {ro : List (Option Nat)} {best v : Nat} (h : Mod ro best false) (hb : Best ro v) (hne : ro ≠ []) : FloatKind.f64.format.order v best = some .eq := by
  have hno : none ∉ ro := fun e => by have := h.1.2 e; cases this
  have h1 := h.2 hno hne
  have h2 := hb.2 hno
  show double.order v best = _
  rw [order_key h2.2.1 h1.2.1]
  have a1 := h1.2.2 v h2.1
  have a2 := h2.2.2 best h1.1
  rw [Int.compare_eq_eq.2 (by omega)]
end Go.Proofs.Ybulkdeha
