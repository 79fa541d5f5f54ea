/-
  The contract of allDigits (function 18): it answers as the plain function 'allD' does; memory stands.
-/
import Derived.Test.YbulkdehaRows
import Derived.WalkKit
import Derived.WalkLawsBesides
import Derived.WalkSpells
namespace Go.Proofs.Ybulkdeha
open Go.RowKit

/-- is it one of the ten digits? -/
def dgB (c : UInt8) : Bool := decide (48 ≤ c.toNat ∧ c.toNat ≤ 57)
def allB (l : List UInt8) : Bool := l.all dgB
def allD (l : List UInt8) : Bool := !l.isEmpty && allB l

theorem take_snoc (s : ByteArray) (k : Nat) (h : k < s.size) : s.data.toList.take (k + 1) = s.data.toList.take k ++ [s[k]] := by
  rw [List.take_succ_eq_append_getElem (by simpa using h)]; rfl

theorem dg_yes {c : UInt8} (h1 : ¬ (c.toNat : Int) < 48) (h2 : ¬ 57 < (c.toNat : Int)) : dgB c = true := by
  unfold dgB; rw [decide_eq_true_eq]; omega
theorem dg_no {c : UInt8} (h : (c.toNat : Int) < 48 ∨ 57 < (c.toNat : Int)) : dgB c = false := by
  unfold dgB; rw [decide_eq_false_iff_not]; omega
theorem all_snoc (l : List UInt8) (c : UInt8) : allB (l ++ [c]) = (allB l && dgB c) := by simp [allB]
theorem all_of_no (s : ByteArray) (k : Nat) (h : k < s.size) (hd : dgB s[k] = false) : allB s.data.toList = false := by
  unfold allB
  rw [List.all_eq_false]
  refine ⟨s[k], ?_, by simp [hd]⟩
  have : s[k] = s.data.toList[k]'(by simpa using h) := rfl
  rw [this]; exact List.getElem_mem _
theorem ret_bool {a b : Bool} (h : a = b) : Ending.returned (.bool a) = .returned (.bool b) := by rw [h]

theorem digits_none (s : ByteArray) (w : World) (h : s.toList.isEmpty = true) :
    Calls Yba.prog 18 #[.string s] w fun e w' => e = .returned (.bool false) ∧ w' = w := by
  go_enter Yba.func18, Yba.ntmps18
  go_wp2
  go_ret
  exact ⟨rfl, rfl⟩

set_option maxHeartbeats 400000 in
theorem digits_some (s : ByteArray) (w : World) (hs : s.size ≤ maxLen) (h0 : s.toList.isEmpty = false) :
    Calls Yba.prog 18 #[.string s] w fun e w' => e = .returned (.bool (allB s.data.toList)) ∧ w' = w := by
  unfold maxLen at hs
  go_enter Yba.func18, Yba.ntmps18
  go_wp2
  go_loop [3] (fun i => ∃ k : Nat, k ≤ s.size ∧ i = .int .i64 k ∧ allB (s.data.toList.take k) = true) (fun i => s.size - (intOf i).toNat)
  case atStart => exact ⟨0, Nat.zero_le _, rfl, rfl⟩
  case round =>
    obtain ⟨k, hk, rfl, hall⟩ := hrel
    have HA : Hid (allB (s.data.toList.take k) = true) := hall
    clear hall
    by_cases hlt : k < s.size
    · by_cases c1 : (s[k].toNat : Int) < 48
      · go_wp2
        go_ret
        exact ⟨ret_bool (all_of_no s k hlt (dg_no (Or.inl c1))).symm, rfl⟩
      · by_cases c2 : 57 < (s[k].toNat : Int)
        · go_wp2
          go_ret
          exact ⟨ret_bool (all_of_no s k hlt (dg_no (Or.inr c2))).symm, rfl⟩
        · have HD : Hid (dgB s[k] = true) := dg_yes c1 c2
          go_wp2
          go_round
          case rel => exact ⟨k + 1, by omega, by go_num, by rw [take_snoc s k hlt, all_snoc, HA.out, HD.out]; rfl⟩
          case measure => simp [intOf]; omega
    · go_wp2
      go_ret
      refine ⟨ret_bool ?_, rfl⟩
      have h := HA.out
      rw [List.take_of_length_le (by simp; omega)] at h
      exact h.symm

/-- allDigits, whatever the string. -/
theorem digits_any (s : ByteArray) (w : World) (hs : s.size ≤ maxLen) :
    Calls Yba.prog 18 #[.string s] w fun e w' => e = .returned (.bool (allD s.data.toList)) ∧ w' = w := by
  cases h : s.toList.isEmpty with
  | true =>
    refine (digits_none s w h).mono ?_
    rintro e w' ⟨rfl, rfl⟩
    refine ⟨ret_bool ?_, rfl⟩
    rw [ByteArray.toList_eq] at h
    unfold allD; rw [h]; rfl
  | false =>
    refine (digits_some s w hs h).mono ?_
    rintro e w' ⟨rfl, rfl⟩
    refine ⟨ret_bool ?_, rfl⟩
    rw [ByteArray.toList_eq] at h
    unfold allD; rw [h]; rfl
end Go.Proofs.Ybulkdeha
