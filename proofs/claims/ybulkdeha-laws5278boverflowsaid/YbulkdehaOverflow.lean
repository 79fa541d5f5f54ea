/-
  The walk of LawS5278BOverflow (function 6).
-/
import Derived.Test.YbulkdehaRound
import Derived.Test.YbulkdehaNaN
namespace Go.Proofs.Ybulkdeha
open Go.RowKit
open Ieee

/-- roundoff where the sum is an infinity: a NaN. -/
theorem roff_inf (x y s bp t2 : Nat) (h1 : double.sub s x = some bp) (h2 : double.sub s bp = none) (h3 : double.sub y bp = some t2) (w : World) :
    Calls Yba.prog 17 #[.float .f64 x, .float .f64 y, .float .f64 s] w fun e w' => ∃ r, e = .returned (.float .f64 r) ∧ IsN r ∧ w' = w.drew.drew.drew := by
  have r1 := run_float_arith (P := Yba.prog) w .sub 26 .f64 s x bp h1
  have r2 := run_float_nan (P := Yba.prog) w .sub 26 s bp (by simp) h2
  have n1 := nanOf_nan w s bp
  generalize nanOf w s bp = b1 at *
  have r3 := run_float_nan (P := Yba.prog) w.drew .sub 26 x b1 (by simp) (isN_sub_right n1 x)
  have n2 := nanOf_nan w.drew x b1
  generalize nanOf w.drew x b1 = b2 at *
  have r4 := run_float_arith (P := Yba.prog) w.drew.drew .sub 26 .f64 y bp t2 h3
  have r5 := run_float_nan (P := Yba.prog) w.drew.drew .add 26 b2 t2 (by simp) (isN_add_left n2 t2)
  have n3 := nanOf_nan w.drew.drew b2 t2
  generalize nanOf w.drew.drew b2 t2 = b3 at *
  have N3 : Hid (IsN b3) := n3
  clear n1 n2 n3 h1 h2 h3
  go_enter Yba.func17, Yba.ntmps17
  go_wp2
  go_ret
  exact ⟨b3, rfl, N3.out, rfl⟩

/-- the word of MaxFloat64 / 2^k -/
def bw (k : Nat) : Nat := (2046 - k) * 2 ^ 52 + (2 ^ 52 - 1)
theorem o1 : ∀ k, k < 51 → double.div 9218868437227405311 (Fl.pw k) = some (bw k) := by decide +kernel
theorem o2 : ∀ k, k < 51 → double.add 9218868437227405311 (bw k) = some 9218868437227405312 := by decide +kernel
theorem o3 : ∀ k, k < 51 → Op.negFloat .f64 (bw k) = 2 ^ 63 + bw k := by decide +kernel
theorem o4 : ∀ k, k < 51 → double.add 18442240474082181119 (2 ^ 63 + bw k) = some 18442240474082181120 := by decide +kernel
theorem o5 : ∀ k, k < 51 → double.sub (bw k) 9218868437227405312 = some 18442240474082181120 := by decide +kernel
theorem o6 : ∀ k, k < 51 → double.sub (2 ^ 63 + bw k) 18442240474082181120 = some 9218868437227405312 := by decide +kernel
theorem o7 : double.sub 9218868437227405312 9218868437227405311 = some 9218868437227405312 := by decide +kernel
theorem o8 : double.sub 9218868437227405312 9218868437227405312 = none := by decide +kernel
theorem o9 : double.sub 18442240474082181120 18442240474082181119 = some 18442240474082181120 := by decide +kernel
theorem o10 : double.sub 18442240474082181120 18442240474082181120 = none := by decide +kernel
theorem o11 : FloatKind.f64.format.order 9218868437227405312 9218868437227405311 = some .gt := by decide +kernel
theorem o12 : FloatKind.f64.format.order 18442240474082181120 9218868437227405311 = some .lt := by decide +kernel
theorem o13 : FloatKind.f64.format.order 18442240474082181120 18442240474082181119 = some .lt := by decide +kernel
theorem o14 : Op.negFloat .f64 9218868437227405311 = 18442240474082181119 := by decide +kernel

theorem of_walk (a0 : Int) (h0 : 0 ≤ a0) (h1 : a0 ≤ 255) (neg : Bool) (w : World) :
    Calls Yba.prog 6 #[.int .u8 a0, .bool neg] w fun e w' => e = .returned (.bool true) ∧ w' = w.drew.drew.drew := by
  obtain ⟨k, hk⟩ : ∃ k : Nat, a0 % 51 = (k : Int) := ⟨(a0 % 51).toNat, by omega⟩
  have hk51 : k < 51 := by omega
  have r1 := run_float_arith (P := Yba.prog) w .quo 26 .f64 _ _ _ (o1 k hk51)
  have r2 := run_float_arith (P := Yba.prog) w .add 26 .f64 _ _ _ (o2 k hk51)
  have r3 := run_float_arith (P := Yba.prog) w .add 26 .f64 _ _ _ (o4 k hk51)
  have e3 := o3 k hk51
  have e5 := o5 k hk51
  have e6 := o6 k hk51
  have e11 := o11
  have e12 := o12
  have e13 := o13
  have e14 := o14
  generalize 2 ^ 63 + bw k = bn at *
  generalize bw k = bk at *
  have E5 : Hid (double.sub bk 9218868437227405312 = some 18442240474082181120) := e5
  have E6 : Hid (double.sub bn 18442240474082181120 = some 9218868437227405312) := e6
  clear e5 e6
  have u1 : ∀ (w : World) (b : Nat), Sem.run Yba.prog (Op.unary .neg (.float .f64 b)) w = .ok (.float .f64 (Op.negFloat .f64 b)) w := fun _ _ => rfl
  cases neg
  · go_enter Yba.func6, Yba.ntmps6
    go_wp2_with fail
    refine (pow2_any k (by omega) _).mono ?_
    rintro e w' ⟨rfl, hw⟩
    obtain rfl := hw.symm
    clear hw
    go_wp2_with fail
    refine (roff_inf _ _ _ _ _ o7 o8 E5.out _).mono ?_
    rintro e w' ⟨r, rfl, hn, hw⟩
    subst hw
    have hq : FloatKind.f64.format.order r r = none := isN_order_left hn r
    clear hn
    go_wp2
    go_ret
    exact ⟨rfl, rfl⟩
  · go_enter Yba.func6, Yba.ntmps6
    go_wp2_with fail
    refine (pow2_any k (by omega) _).mono ?_
    rintro e w' ⟨rfl, hw⟩
    obtain rfl := hw.symm
    clear hw
    go_wp2_with fail
    refine (roff_inf _ _ _ _ _ o9 o10 E6.out _).mono ?_
    rintro e w' ⟨r, rfl, hn, hw⟩
    subst hw
    have hq : FloatKind.f64.format.order r r = none := isN_order_left hn r
    clear hn
    go_wp2
    go_ret
    exact ⟨rfl, rfl⟩
end Go.Proofs.Ybulkdeha
