/-
  Walks: math.IsNaN (14), the search's comparison (24), pairRate (25) and its twin in the law (13), ahead (26).
-/
import Derived.Test.YbulkdehaKey
import Derived.WalkLawsBesides
import Derived.WalkSpells
namespace Go.Proofs.Ybulkdeha
open Go.RowKit
open Ieee

theorem isnan_any (x : Nat) (w : World) :
    Calls Yba.prog 14 #[.float .f64 x] w fun e w' => e = .returned (.bool (nanB x)) ∧ w' = w := by
  go_enter Yba.func14, Yba.ntmps14
  go_wp2
  go_ret
  exact ⟨rfl, rfl⟩

/-- 1 where the sample lies after t, else -1 -/
theorem after_any (T : Int) (V : Nat) (t : Int) (w : World) :
    Calls Yba.prog 24 #[.agg #[.int .i64 T, .float .f64 V], .int .i64 t] w fun e w' => e = .returned (.int .i64 (if t < T then 1 else -1)) ∧ w' = w.alloc (.cells #[.int .i64 T, .float .f64 V] 28) := by
  by_cases h : t < T
  · rw [if_pos h]
    go_enter Yba.func24, Yba.ntmps24
    go_wp2
    go_ret
    exact ⟨rfl, rfl⟩
  · rw [if_neg h]
    go_enter Yba.func24, Yba.ntmps24
    go_wp2
    go_ret
    exact ⟨rfl, rfl⟩

theorem wrap64_bounds (x : Int) : -9223372036854775808 ≤ wrap64 x ∧ wrap64 x ≤ 9223372036854775807 := by
  unfold wrap64; omega

theorem below2 (w : World) (o1 o2 : Obj) : Below w.heap.size w ((w.alloc o1).alloc o2) :=
  ((Below.refl _ _).alloc (Nat.le_refl _) _).alloc (by simp) _

set_option maxHeartbeats 400000 in
theorem rate_any (p q : Smp) (w : World) :
    Calls Yba.prog 25 #[.agg #[.int .i64 p.1, .float .f64 p.2], .agg #[.int .i64 q.1, .float .f64 q.2]] w fun e w' => ∃ r, e = .returned (.float .f64 r) ∧ RtOk (rt p q) r ∧ Below w.heap.size w w' := by
  obtain ⟨T1, a⟩ := p
  obtain ⟨T2, b⟩ := q
  have hb0 := below2 w (.cells #[.int .i64 T1, .float .f64 a] 28) (.cells #[.int .i64 T2, .float .f64 b] 28)
  have HB : Hid (Below w.heap.size w ((w.alloc (.cells #[.int .i64 T1, .float .f64 a] 28)).alloc (.cells #[.int .i64 T2, .float .f64 b] 28))) := hb0
  clear hb0
  have hd := fun (w : World) => run_float_arith (P := Yba.prog) w .quo 26 .f64 _ _ _ (dtw_eq (wrap64 (T2 - T1)) (wrap64_bounds _))
  have HR : Hid (rt (T1, a) (T2, b) = (chg a b).bind fun c => double.div c (dtw (wrap64 (T2 - T1)))) := rfl
  generalize dtw (wrap64 (T2 - T1)) = dt at *
  cases hl : (FloatKind.f64.format.order b a == some .lt)
  · have HC : Hid (chg a b = double.sub b a) := by show chg a b = _; unfold chg; rw [hl]; rfl
    cases hs : double.sub b a with
    | none =>
      have HN : Hid (rt (T1, a) (T2, b) = none) := by show _ = _; rw [HR.out, HC.out, hs]; rfl
      have h1 := fun (w : World) => run_float_nan (P := Yba.prog) w .sub 26 b a (by simp) hs
      have h2 := fun (w x : _) (hx : IsN x) => run_float_nan (P := Yba.prog) w .quo 26 x dt (by simp) (isN_div_left hx dt)
      have h3 := fun (w : World) => h2 w.drew (nanOf w b a) (nanOf_nan w b a)
      clear h2 hs HR HC
      go_enter Yba.func25, Yba.ntmps25
      go_wp2
      go_ret
      exact ⟨_, rfl, by rw [HN.out]; exact nanOf_nan _ _ _, (HB.out.drew).drew⟩
    | some c =>
      have h1 := fun (w : World) => run_float_arith (P := Yba.prog) w .sub 26 .f64 _ _ _ hs
      cases hq : double.div c dt with
      | none =>
        have HN : Hid (rt (T1, a) (T2, b) = none) := by show _ = _; rw [HR.out, HC.out, hs]; exact hq
        have h2 := fun (w : World) => run_float_nan (P := Yba.prog) w .quo 26 c dt (by simp) hq
        clear hs hq HR HC
        go_enter Yba.func25, Yba.ntmps25
        go_wp2
        go_ret
        exact ⟨_, rfl, by rw [HN.out]; exact nanOf_nan _ _ _, HB.out.drew⟩
      | some r =>
        have HN : Hid (rt (T1, a) (T2, b) = some r) := by show _ = _; rw [HR.out, HC.out, hs]; exact hq
        have h2 := fun (w : World) => run_float_arith (P := Yba.prog) w .quo 26 .f64 _ _ _ hq
        have HX : Hid (¬ IsN r) := div_not_nan hq
        clear hs hq HR HC
        go_enter Yba.func25, Yba.ntmps25
        go_wp2
        go_ret
        exact ⟨_, rfl, by rw [HN.out]; exact ⟨rfl, HX.out⟩, HB.out⟩
  · have HC : Hid (chg a b = some b) := by show chg a b = _; unfold chg; rw [hl]; rfl
    cases hs : double.sub b a with
    | none =>
      have h1 := fun (w : World) => run_float_nan (P := Yba.prog) w .sub 26 b a (by simp) hs
      cases hq : double.div b dt with
      | none =>
        have HN : Hid (rt (T1, a) (T2, b) = none) := by show _ = _; rw [HR.out, HC.out]; exact hq
        have h2 := fun (w : World) => run_float_nan (P := Yba.prog) w .quo 26 b dt (by simp) hq
        clear hs hq HR HC
        go_enter Yba.func25, Yba.ntmps25
        go_wp2
        go_ret
        exact ⟨_, rfl, by rw [HN.out]; exact nanOf_nan _ _ _, (HB.out.drew).drew⟩
      | some r =>
        have HN : Hid (rt (T1, a) (T2, b) = some r) := by show _ = _; rw [HR.out, HC.out]; exact hq
        have h2 := fun (w : World) => run_float_arith (P := Yba.prog) w .quo 26 .f64 _ _ _ hq
        have HX : Hid (¬ IsN r) := div_not_nan hq
        clear hs hq HR HC
        go_enter Yba.func25, Yba.ntmps25
        go_wp2
        go_ret
        exact ⟨_, rfl, by rw [HN.out]; exact ⟨rfl, HX.out⟩, HB.out.drew⟩
    | some c =>
      have h1 := fun (w : World) => run_float_arith (P := Yba.prog) w .sub 26 .f64 _ _ _ hs
      cases hq : double.div b dt with
      | none =>
        have HN : Hid (rt (T1, a) (T2, b) = none) := by show _ = _; rw [HR.out, HC.out]; exact hq
        have h2 := fun (w : World) => run_float_nan (P := Yba.prog) w .quo 26 b dt (by simp) hq
        clear hs hq HR HC
        go_enter Yba.func25, Yba.ntmps25
        go_wp2
        go_ret
        exact ⟨_, rfl, by rw [HN.out]; exact nanOf_nan _ _ _, HB.out.drew⟩
      | some r =>
        have HN : Hid (rt (T1, a) (T2, b) = some r) := by show _ = _; rw [HR.out, HC.out]; exact hq
        have h2 := fun (w : World) => run_float_arith (P := Yba.prog) w .quo 26 .f64 _ _ _ hq
        have HX : Hid (¬ IsN r) := div_not_nan hq
        clear hs hq HR HC
        go_enter Yba.func25, Yba.ntmps25
        go_wp2
        go_ret
        exact ⟨_, rfl, by rw [HN.out]; exact ⟨rfl, HX.out⟩, HB.out⟩

set_option maxHeartbeats 400000 in
theorem arate_any (p q : Smp) (w : World) :
    Calls Yba.prog 13 #[.agg #[.int .i64 p.1, .float .f64 p.2], .agg #[.int .i64 q.1, .float .f64 q.2]] w fun e w' => ∃ r, e = .returned (.float .f64 r) ∧ RtOk (rt p q) r ∧ Below w.heap.size w w' := by
  obtain ⟨T1, a⟩ := p
  obtain ⟨T2, b⟩ := q
  have hb0 := below2 w (.cells #[.int .i64 T1, .float .f64 a] 28) (.cells #[.int .i64 T2, .float .f64 b] 28)
  have HB : Hid (Below w.heap.size w ((w.alloc (.cells #[.int .i64 T1, .float .f64 a] 28)).alloc (.cells #[.int .i64 T2, .float .f64 b] 28))) := hb0
  clear hb0
  have hd := fun (w : World) => run_float_arith (P := Yba.prog) w .quo 26 .f64 _ _ _ (dtw_eq (wrap64 (T2 - T1)) (wrap64_bounds _))
  have HR : Hid (rt (T1, a) (T2, b) = (chg a b).bind fun c => double.div c (dtw (wrap64 (T2 - T1)))) := rfl
  generalize dtw (wrap64 (T2 - T1)) = dt at *
  cases hl : (FloatKind.f64.format.order b a == some .lt)
  · have HC : Hid (chg a b = double.sub b a) := by show chg a b = _; unfold chg; rw [hl]; rfl
    cases hs : double.sub b a with
    | none =>
      have HN : Hid (rt (T1, a) (T2, b) = none) := by show _ = _; rw [HR.out, HC.out, hs]; rfl
      have h1 := fun (w : World) => run_float_nan (P := Yba.prog) w .sub 26 b a (by simp) hs
      have h2 := fun (w x : _) (hx : IsN x) => run_float_nan (P := Yba.prog) w .quo 26 x dt (by simp) (isN_div_left hx dt)
      have h3 := fun (w : World) => h2 w.drew (nanOf w b a) (nanOf_nan w b a)
      clear h2 hs HR HC
      go_enter Yba.func13, Yba.ntmps13
      go_wp2
      go_ret
      exact ⟨_, rfl, by rw [HN.out]; exact nanOf_nan _ _ _, (HB.out.drew).drew⟩
    | some c =>
      have h1 := fun (w : World) => run_float_arith (P := Yba.prog) w .sub 26 .f64 _ _ _ hs
      cases hq : double.div c dt with
      | none =>
        have HN : Hid (rt (T1, a) (T2, b) = none) := by show _ = _; rw [HR.out, HC.out, hs]; exact hq
        have h2 := fun (w : World) => run_float_nan (P := Yba.prog) w .quo 26 c dt (by simp) hq
        clear hs hq HR HC
        go_enter Yba.func13, Yba.ntmps13
        go_wp2
        go_ret
        exact ⟨_, rfl, by rw [HN.out]; exact nanOf_nan _ _ _, HB.out.drew⟩
      | some r =>
        have HN : Hid (rt (T1, a) (T2, b) = some r) := by show _ = _; rw [HR.out, HC.out, hs]; exact hq
        have h2 := fun (w : World) => run_float_arith (P := Yba.prog) w .quo 26 .f64 _ _ _ hq
        have HX : Hid (¬ IsN r) := div_not_nan hq
        clear hs hq HR HC
        go_enter Yba.func13, Yba.ntmps13
        go_wp2
        go_ret
        exact ⟨_, rfl, by rw [HN.out]; exact ⟨rfl, HX.out⟩, HB.out⟩
  · have HC : Hid (chg a b = some b) := by show chg a b = _; unfold chg; rw [hl]; rfl
    cases hs : double.sub b a with
    | none =>
      have h1 := fun (w : World) => run_float_nan (P := Yba.prog) w .sub 26 b a (by simp) hs
      cases hq : double.div b dt with
      | none =>
        have HN : Hid (rt (T1, a) (T2, b) = none) := by show _ = _; rw [HR.out, HC.out]; exact hq
        have h2 := fun (w : World) => run_float_nan (P := Yba.prog) w .quo 26 b dt (by simp) hq
        clear hs hq HR HC
        go_enter Yba.func13, Yba.ntmps13
        go_wp2
        go_ret
        exact ⟨_, rfl, by rw [HN.out]; exact nanOf_nan _ _ _, (HB.out.drew).drew⟩
      | some r =>
        have HN : Hid (rt (T1, a) (T2, b) = some r) := by show _ = _; rw [HR.out, HC.out]; exact hq
        have h2 := fun (w : World) => run_float_arith (P := Yba.prog) w .quo 26 .f64 _ _ _ hq
        have HX : Hid (¬ IsN r) := div_not_nan hq
        clear hs hq HR HC
        go_enter Yba.func13, Yba.ntmps13
        go_wp2
        go_ret
        exact ⟨_, rfl, by rw [HN.out]; exact ⟨rfl, HX.out⟩, HB.out.drew⟩
    | some c =>
      have h1 := fun (w : World) => run_float_arith (P := Yba.prog) w .sub 26 .f64 _ _ _ hs
      cases hq : double.div b dt with
      | none =>
        have HN : Hid (rt (T1, a) (T2, b) = none) := by show _ = _; rw [HR.out, HC.out]; exact hq
        have h2 := fun (w : World) => run_float_nan (P := Yba.prog) w .quo 26 b dt (by simp) hq
        clear hs hq HR HC
        go_enter Yba.func13, Yba.ntmps13
        go_wp2
        go_ret
        exact ⟨_, rfl, by rw [HN.out]; exact nanOf_nan _ _ _, HB.out.drew⟩
      | some r =>
        have HN : Hid (rt (T1, a) (T2, b) = some r) := by show _ = _; rw [HR.out, HC.out]; exact hq
        have h2 := fun (w : World) => run_float_arith (P := Yba.prog) w .quo 26 .f64 _ _ _ hq
        have HX : Hid (¬ IsN r) := div_not_nan hq
        clear hs hq HR HC
        go_enter Yba.func13, Yba.ntmps13
        go_wp2
        go_ret
        exact ⟨_, rfl, by rw [HN.out]; exact ⟨rfl, HX.out⟩, HB.out⟩

/-- is the rate a ahead of the rate b (the largest wanted)? -/
def aheadB (a b : Nat) : Bool := nanB a || (FloatKind.f64.format.order a b == some .gt)

theorem ahead_any (g : Nat) (a b : Nat) (w : World) (hc : w.cell? ⟨g, 0, none⟩ = some (.bool true)) :
    Calls Yba.prog 26 #[.pointer (some ⟨g, 0, none⟩), .float .f64 a, .float .f64 b] w fun e w' => e = .returned (.bool (aheadB a b)) ∧ w' = w := by
  cases hn : nanB a
  · have HE : Hid (aheadB a b = (FloatKind.f64.format.order a b == some .gt)) := by show _ = _; unfold aheadB; rw [hn]; rfl
    go_enter Yba.func26, Yba.ntmps26
    go_wp2_with (go_at_call 14; refine (isnan_any _ _).mono ?_; rintro e w' ⟨rfl, hw⟩; obtain rfl := hw.symm; clear hw; rw [hn])
    go_ret
    exact ⟨by rw [HE.out]; rfl, rfl⟩
  · have HE : Hid (aheadB a b = true) := by show _ = _; unfold aheadB; rw [hn]; rfl
    go_enter Yba.func26, Yba.ntmps26
    go_wp2_with (go_at_call 14; refine (isnan_any _ _).mono ?_; rintro e w' ⟨rfl, hw⟩; obtain rfl := hw.symm; clear hw; rw [hn])
    go_ret
    exact ⟨by rw [HE.out]; rfl, rfl⟩
end Go.Proofs.Ybulkdeha
