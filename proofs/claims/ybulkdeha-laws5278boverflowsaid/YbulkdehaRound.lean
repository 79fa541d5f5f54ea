/-
  Walks: zzs5278bpow2 (function 16) gives the word of 2^k; roundoff (function 17) does the five operations of its text.
-/
import Derived.Test.YbulkdehaRows
import Derived.Test.YbulkdehaFloatOps
import Derived.Test.YbulkdehaTwoSum
import Derived.WalkKit
import Derived.WalkLawsBesides
import Derived.WalkSpells
import Derived.Laws.FloatArith
namespace Go.Proofs.Ybulkdeha
open Go.RowKit
open Ieee

theorem pw_two : ∀ i, i < 60 → double.mul (Fl.pw i) 4611686018427387904 = some (Fl.pw (i + 1)) := by decide +kernel
theorem pw_zero : Fl.pw 0 = 4607182418800017408 := by decide

theorem pow2_any (k : Nat) (hk : k ≤ 60) (w : World) :
    Calls Yba.prog 16 #[.int .i64 (k : Int)] w fun e w' => e = .returned (.float .f64 (Fl.pw k)) ∧ w' = w := by
  have hz := pw_zero
  have HZ : Hid (Fl.pw 0 = 4607182418800017408) := hz
  clear hz
  go_enter Yba.func16, Yba.ntmps16
  go_wp2
  go_loop [3, 4] (fun p i => ∃ j : Nat, j ≤ k ∧ i = .int .i64 j ∧ p = .float .f64 (Fl.pw j)) (fun _ i => k - (intOf i).toNat)
  case atStart => exact ⟨0, Nat.zero_le _, rfl, by rw [HZ.out]⟩
  case round =>
    obtain ⟨j, hj, rfl, rfl⟩ := hrel
    by_cases hlt : j < k
    · have hm := run_float_arith (P := Yba.prog) w .mul 26 .f64 (Fl.pw j) 4611686018427387904 (Fl.pw (j + 1)) (pw_two j (by omega))
      go_wp2
      go_round
      case rel => exact ⟨j + 1, by omega, by go_num, rfl⟩
      case measure => simp [intOf]; omega
    · obtain rfl : j = k := by omega
      go_wp2
      go_ret
      exact ⟨rfl, rfl⟩

/-- The five operations of roundoff come to e, none of them without an answer. -/
def ROff (x y s e : Nat) : Prop :=
  ∃ bp ap t1 t2, double.sub s x = some bp ∧ double.sub s bp = some ap ∧ double.sub x ap = some t1 ∧ double.sub y bp = some t2 ∧ double.add t1 t2 = some e

theorem roff_any (x y s e : Nat) (h : ROff x y s e) (w : World) :
    Calls Yba.prog 17 #[.float .f64 x, .float .f64 y, .float .f64 s] w fun e' w' => e' = .returned (.float .f64 e) ∧ w' = w := by
  obtain ⟨bp, ap, t1, t2, h1, h2, h3, h4, h5⟩ := h
  have r1 := run_float_arith (P := Yba.prog) w .sub 26 .f64 s x bp h1
  have r2 := run_float_arith (P := Yba.prog) w .sub 26 .f64 s bp ap h2
  have r3 := run_float_arith (P := Yba.prog) w .sub 26 .f64 x ap t1 h3
  have r4 := run_float_arith (P := Yba.prog) w .sub 26 .f64 y bp t2 h4
  have r5 := run_float_arith (P := Yba.prog) w .add 26 .f64 t1 t2 e h5
  clear h1 h2 h3 h4 h5
  go_enter Yba.func17, Yba.ntmps17
  go_wp2
  go_ret
  exact ⟨rfl, rfl⟩
end Go.Proofs.Ybulkdeha
