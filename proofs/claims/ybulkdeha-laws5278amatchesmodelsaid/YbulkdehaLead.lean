/-
  The leaders of a window: plain laws.
-/
import Derived.Test.YbulkdehaRates
namespace Go.Proofs.Ybulkdeha
open Ieee

/-- A leader: the place of its pair, its rate's bits. -/
abbrev Ldr := Nat × Nat
/-- its cells -/
def ldc (ld : List Ldr) : List Value := ld.flatMap fun x => [.int .i64 (x.1 : Int), .float .f64 x.2]

theorem ldc_length : ∀ ld : List Ldr, (ldc ld).length = ld.length * 2
  | [] => rfl
  | x :: ld => by
    have := ldc_length ld
    unfold ldc at *
    simp only [List.flatMap_cons, List.length_append, List.length_cons, List.length_nil]
    omega
theorem ldc_append (a b : List Ldr) : ldc (a ++ b) = ldc a ++ ldc b := by unfold ldc; simp
theorem ldc_one (i r : Nat) : ldc [(i, r)] = [.int .i64 (i : Int), .float .f64 r] := by simp [ldc]
theorem ldc_take : ∀ (ld : List Ldr) (k : Nat), ldc (ld.take k) = (ldc ld).take (k * 2)
  | [], k => by simp [ldc]
  | x :: ld, 0 => by simp [ldc]
  | x :: ld, k + 1 => by
    have := ldc_take ld k
    unfold ldc at *
    simp only [List.take_succ_cons, List.flatMap_cons]
    rw [this, show (k + 1) * 2 = k * 2 + 1 + 1 from by omega]
    simp
theorem ldc_at : ∀ (ld : List Ldr) (m : Nat) (h : m < ld.length), (ldc ld)[m * 2]? = some (.int .i64 ((ld[m]).1 : Int)) ∧ (ldc ld)[m * 2 + 1]? = some (.float .f64 (ld[m]).2)
  | [], m, h => by simp at h
  | x :: ld, 0, _ => by simp [ldc]
  | x :: ld, m + 1, h => by
    have := ldc_at ld m (by simpa using h)
    unfold ldc at *
    simp only [List.flatMap_cons, show (m + 1) * 2 = m * 2 + 1 + 1 from by omega]
    simpa using this
theorem ldc_one_cell (ld : List Ldr) : ∀ u ∈ ldc ld, u.oneCell' = true := by
  intro u hu
  unfold ldc at hu
  rw [List.mem_flatMap] at hu
  obtain ⟨x, _, hx⟩ := hu
  simp at hx
  rcases hx with rfl | rfl <;> rfl

theorem ownsRow_take {w : World} {B e size g n cap : Nat} {xs : List Value} (h : w.ownsRow B e size (.slice (some ⟨g, 0, none⟩) n cap) n xs) (k : Nat) (hk : k ≤ n) :
    w.ownsRow B e size (.slice (some ⟨g, 0, none⟩) k cap) k (xs.take (k * size)) := by
  obtain ⟨h1, h2 | ⟨g', cap', cur, e1, h3, h4, h5, h6, h7, h8⟩⟩ := h
  · cases h2.1
  · cases e1
    have hks : k * size ≤ n * size := Nat.mul_le_mul_right _ hk
    refine ⟨by rw [List.length_take]; omega, Or.inr ⟨g, cap, cur, rfl, h3, h4, by omega, h6, h7, ?_⟩⟩
    rw [← h8, List.take_take, Nat.min_eq_left hks]

/-- What is known of the leaders of the pairs seen so far, whose rates are 'ro'. -/
structure LInv (ro : List (Option Nat)) (ld : List Ldr) (lo : Nat) : Prop where
  all : ∀ x ∈ ld, lo ≤ x.1 ∧ ∃ o ∈ ro, RtOk o x.2
  ne : ro ≠ [] → ld ≠ []
  nan : none ∈ ro → ∀ x, ld.head? = some x → IsN x.2
  best : none ∉ ro → ∀ x, ld.head? = some x → ∀ r, some r ∈ ro → K r ≤ K x.2

theorem LInv.start (lo : Nat) : LInv [] [] lo := ⟨fun x hx => by simp at hx, fun h => absurd rfl h, fun h => by simp at h, fun _ x hx => by simp at hx⟩

theorem gt_key {a b : Nat} (ha : ¬ IsN a) (hb : ¬ IsN b) : (FloatKind.f64.format.order a b == some .gt) = decide (K b < K a) := by
  show (double.order a b == some .gt) = _
  rw [order_key ha hb]
  by_cases h : K b < K a
  · rw [cmp_gt' h]; simp [h]
  · rw [decide_eq_false h]
    by_cases h2 : K a = K b
    · rw [Int.compare_eq_eq.2 h2]; rfl
    · rw [cmp_lt' (by omega)]; rfl

theorem ahead_false {a b : Nat} (h : aheadB a b = false) : ¬ IsN a ∧ (¬ IsN b → K a ≤ K b) := by
  unfold aheadB at h
  rw [Bool.or_eq_false_iff] at h
  have ha := (nanB_false a).1 h.1
  refine ⟨ha, fun hb => ?_⟩
  have h2 := h.2
  rw [gt_key ha hb, decide_eq_false_iff_not] at h2
  omega
theorem ahead_true {a b : Nat} (h : aheadB a b = true) : IsN a ∨ (¬ IsN b ∧ ¬ IsN a ∧ K b < K a) := by
  unfold aheadB at h
  rw [Bool.or_eq_true] at h
  rcases Classical.em (IsN a) with ha | ha
  · exact Or.inl ha
  · refine Or.inr ?_
    rcases h with h | h
    · exact absurd ((nanB_iff a).1 h) ha
    · have hb : ¬ IsN b := by
        intro hb
        have h' : (double.order a b == some .gt) = true := h
        rw [isN_order_right hb] at h'
        simp at h'
      rw [gt_key ha hb, decide_eq_true_eq] at h
      exact ⟨hb, ha, h⟩

theorem LInv.push {ro : List (Option Nat)} {ld : List Ldr} {lo : Nat} (H : LInv ro ld lo) {o : Option Nat} {r i n : Nat} (ho : RtOk o r) (hi : lo ≤ i) (hn : n ≤ ld.length)
    (hpop : ∀ m (h : m < ld.length), n ≤ m → aheadB (ld[m]).2 r = false) (hstop : n = 0 ∨ ∃ h : n - 1 < ld.length, aheadB (ld[n - 1]).2 r = true) :
    LInv (ro ++ [o]) (ld.take n ++ [(i, r)]) lo := by
  have hhead : ∀ x, (ld.take n ++ [(i, r)]).head? = some x → (n = 0 ∧ x = (i, r)) ∨ (0 < n ∧ ld.head? = some x) := by
    intro x hx
    cases n with
    | zero => simp at hx; exact Or.inl ⟨rfl, hx.symm⟩
    | succ n =>
      cases ld with
      | nil => simp at hn
      | cons y ld => simp at hx ⊢; exact hx
  refine ⟨?_, fun _ => by simp, ?_, ?_⟩
  · intro x hx
    rcases List.mem_append.1 hx with h | h
    · obtain ⟨h1, o', ho', h2⟩ := H.all x (List.mem_of_mem_take h)
      exact ⟨h1, o', List.mem_append_left _ ho', h2⟩
    · simp at h; subst h
      exact ⟨hi, o, by simp, ho⟩
  · intro hnone x hx
    rcases hhead x hx with ⟨rfl, rfl⟩ | ⟨hpos, hh⟩
    · rcases List.mem_append.1 hnone with h | h
      · exfalso
        have hne := H.ne (by intro e; rw [e] at h; simp at h)
        cases hld : ld with
        | nil => exact hne hld
        | cons y l =>
          subst hld
          have h1 := H.nan h y rfl
          have h2 := (ahead_false (hpop 0 (by simp) (Nat.le_refl _))).1
          exact h2 h1
      · simp at h; subst h; exact ho
    · rcases Classical.em (none ∈ ro) with h | h
      · exact H.nan h x hh
      · exfalso
        have h3 : o = none := by
          rcases List.mem_append.1 hnone with h' | h'
          · exact absurd h' h
          · simp at h'; exact h'.symm
        subst h3
        rcases hstop with h0 | ⟨hlt, ha⟩
        · omega
        · obtain ⟨_, o', ho', hr⟩ := H.all ld[n - 1] (List.getElem_mem _)
          cases o' with
          | none => exact h ho'
          | some z =>
            rcases ahead_true ha with h5 | h5
            · rw [hr.1] at h5; exact hr.2 h5
            · exact h5.1 ho
  · intro hnone x hx r' hr'
    have hro : none ∉ ro := fun h => hnone (List.mem_append_left _ h)
    have hos : ∃ z, o = some z := by
      cases o with
      | none => exact absurd (List.mem_append_right _ (by simp)) hnone
      | some z => exact ⟨z, rfl⟩
    obtain ⟨z, rfl⟩ := hos
    obtain ⟨rfl, hz⟩ := ho
    rcases hhead x hx with ⟨rfl, rfl⟩ | ⟨hpos, hh⟩
    · rcases List.mem_append.1 hr' with h | h
      · have hne := H.ne (by intro e; rw [e] at h; simp at h)
        cases hld : ld with
        | nil => exact absurd hld hne
        | cons y l =>
          subst hld
          have h1 := H.best hro y rfl r' h
          have h2 := (ahead_false (hpop 0 (by simp) (Nat.le_refl _))).2 hz
          have h3 : K y.2 ≤ K r := h2
          show K r' ≤ K r
          omega
      · simp at h; subst h; exact Int.le_refl _
    · rcases List.mem_append.1 hr' with h | h
      · exact H.best hro x hh r' h
      · simp at h; subst h
        rcases hstop with h0 | ⟨hlt, ha⟩
        · omega
        · obtain ⟨_, o', ho', hr⟩ := H.all ld[n - 1] (List.getElem_mem _)
          cases o' with
          | none => exact absurd ho' hro
          | some z =>
            obtain ⟨e1, e2⟩ := hr
            subst e1
            rcases ahead_true ha with h5 | h5
            · exact absurd h5 e2
            · have := H.best hro x hh _ ho'
              omega

theorem LInv.done {ro : List (Option Nat)} {ld : List Ldr} {lo : Nat} (H : LInv ro ld lo) {x : Ldr} (hx : ld.head? = some x) : Best ro x.2 := by
  refine ⟨fun h => H.nan h x hx, fun h => ?_⟩
  have hm : x ∈ ld := by cases ld with
    | nil => simp at hx
    | cons y l => simp at hx; subst hx; simp
  obtain ⟨_, o, ho, hr⟩ := H.all x hm
  cases o with
  | none => exact absurd ho h
  | some z =>
    obtain ⟨e1, e2⟩ := hr
    rw [e1]
    exact ⟨ho, e2, fun r hr => by rw [← e1]; exact H.best h x hx r hr⟩
end Go.Proofs.Ybulkdeha
