/-
  An operation without an answer gives a NaN, its bits drawn from the tape; whatever the bits, it is a NaN.
-/
import Derived.Test.YbulkdehaRows
import Derived.WalkKit
import Derived.Laws.FloatArith
namespace Go.Proofs.Ybulkdeha
open Ieee

/-- The word is a NaN. -/
def IsN (x : Nat) : Prop := ∃ s f, double.read x = .nan s f

/-- The NaN that the tape gives. -/
def nanOf (w : World) (x y : Nat) : Nat := (Question.nanBits .f64 x y).cut (w.tape w.drawn (.nanBits .f64 x y))

theorem nanOf_nan (w : World) (x y : Nat) : IsN (nanOf w x y) := by
  unfold nanOf IsN
  generalize w.tape w.drawn (.nanBits .f64 x y) = t
  show ∃ s f, double.read ((t % 2) * 2 ^ 63 + 0x7ff0000000000000 + 1 + (t / 2) % (2 ^ 52 - 1)) = .nan s f
  have h1 : (t / 2) % (2 ^ 52 - 1) < 2 ^ 52 - 1 := Nat.mod_lt _ (by decide)
  generalize (t / 2) % (2 ^ 52 - 1) = q at *
  have hb : double.binade = 2 ^ 52 := by decide
  have hi : double.infRung = 0x7ff0000000000000 := by decide
  have hs : double.signWeight = 2 ^ 63 := by decide
  unfold Format.read
  rw [hb, hi, hs]
  have e : ((t % 2) * 2 ^ 63 + 0x7ff0000000000000 + 1 + q) % 2 ^ 63 = 0x7ff0000000000000 + 1 + q := by omega
  simp only [e]
  rw [if_neg (by omega), if_neg (by omega), if_neg (by omega)]
  exact ⟨_, _, rfl⟩

section
variable {P : Program} (w : World)
theorem run_float_nan (op : BinOp) (t : TypeId) (x y : Nat) (hop : op = .add ∨ op = .sub ∨ op = .mul ∨ op = .quo) (h : floatBits op .f64 x y = none) :
    (binOp op t (.float .f64 x) (.float .f64 y)).run P w = .ok (.float .f64 (nanOf w x y)) w.drew := by
  rcases hop with rfl | rfl | rfl | rfl <;> unfold floatBits at h <;> simp only at h <;> simp [binOp, Op.floatArith, h, nanOf, Question.forced]
end

theorem isN_order_left {x : Nat} (h : IsN x) (y : Nat) : double.order x y = none := by
  obtain ⟨s, f, h⟩ := h
  unfold Format.order
  rw [h]; rfl
theorem isN_order_right {y : Nat} (h : IsN y) (x : Nat) : double.order x y = none := by
  obtain ⟨s, f, h⟩ := h
  unfold Format.order
  rw [h]; cases double.read x <;> rfl
theorem isN_sub_right {y : Nat} (h : IsN y) (x : Nat) : double.sub x y = none := by
  obtain ⟨s, f, h⟩ := h
  unfold Format.sub
  rw [h]; cases double.read x <;> rfl
theorem isN_sub_left {x : Nat} (h : IsN x) (y : Nat) : double.sub x y = none := by
  obtain ⟨s, f, h⟩ := h
  unfold Format.sub
  rw [h]; rfl
theorem isN_add_left {x : Nat} (h : IsN x) (y : Nat) : double.add x y = none := by
  obtain ⟨s, f, h⟩ := h
  unfold Format.add
  rw [h]; rfl
theorem isN_div_left {x : Nat} (h : IsN x) (y : Nat) : double.div x y = none := by
  obtain ⟨s, f, h⟩ := h
  unfold Format.div
  rw [h]; rfl
end Go.Proofs.Ybulkdeha
