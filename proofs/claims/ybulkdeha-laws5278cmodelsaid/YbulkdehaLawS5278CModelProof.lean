/-
  The proof of 'Rows.LawS5278CModelSaid': the seat's shell, its hole filled.
-/
import Derived.Test.YbulkdehaDigits
import Derived.ProofKit
import Derived.OpenShut
import Derived.ShutString
namespace Go.Proofs.Ybulkdeha.lawS5278CModel
open Go.ChangeShapes Go.WideShapes Go.ChangeAt Go.RowKit
open Go.ChangeMaps (open_string shut_string)
set_option linter.unusedVariables false      -- a walk need not use every 'w<i>' (that an integer argument fits its kind)

theorem own : ownKnob Yba.prog.godebug = none := by kernel_rfl

def cntD (l : List UInt8) : Nat := (l.filter dgB).length
theorem cnt_le (l : List UInt8) : cntD l ≤ l.length := List.length_filter_le _ _
theorem cnt_snoc (l : List UInt8) (c : UInt8) : cntD (l ++ [c]) = cntD l + (dgB c).toNat := by
  unfold cntD
  rw [List.filter_append]
  cases h : dgB c <;> simp [h]

theorem dg_mod_yes {c : UInt8} (h : ((c.toNat : Int) - 48) % 256 ≤ 9) : dgB c = true := by
  unfold dgB; rw [decide_eq_true_eq]; have := c.toNat_lt; omega
theorem dg_mod_no {c : UInt8} (h : 9 < ((c.toNat : Int) - 48) % 256) : dgB c = false := by
  unfold dgB; rw [decide_eq_false_iff_not]; have := c.toNat_lt; omega

theorem cnt_all : ∀ (l : List UInt8), (cntD l == l.length) = allB l
  | [] => rfl
  | c :: l => by
    have h1 := cnt_all l
    have h2 := cnt_le l
    unfold cntD allB at *
    cases h : dgB c
    · simp only [List.filter_cons, h, List.all_cons, List.length_cons, Bool.false_and]
      rw [beq_eq_false_iff_ne]; simp; omega
    · simp only [List.filter_cons, h, List.all_cons, List.length_cons, Bool.true_and, if_true]
      rw [← h1, Bool.eq_iff_iff, beq_iff_eq, beq_iff_eq]; omega
theorem cm_pos (s : ByteArray) (k : Nat) (he : s.data.toList.take k = s.data.toList) (h0 : 0 < s.size) :
    (allD s.data.toList == (((cntD (s.data.toList.take k) : Nat) : Int) == ((s.size : Nat) : Int))) = true := by
  rw [he]
  have hs : s.size = s.data.toList.length := by simp
  have h1 := cnt_all s.data.toList
  have h2 : (((cntD s.data.toList : Nat) : Int) == ((s.size : Nat) : Int)) = allB s.data.toList := by
    rw [← h1, Bool.eq_iff_iff, beq_iff_eq, beq_iff_eq]; omega
  rw [h2]
  unfold allD
  have h3 : s.data.toList.isEmpty = false := by
    rw [List.isEmpty_eq_false_iff]; intro h; rw [h] at hs; exact absurd h0 (by rw [hs]; decide)
  rw [h3]; simp
theorem cm_neg (s : ByteArray) (h0 : ¬ 0 < s.size) : (!allD s.data.toList) = true := by
  have hs : s.size = s.data.toList.length := by simp
  have : s.data.toList = [] := List.eq_nil_of_length_eq_zero (by omega)
  rw [this]; rfl

/-! ### The walk -/
theorem walk (a0 : ByteArray) (w0 : a0.size ≤ maxLen) (w : World) :
    Calls Yba.prog 7 #[.string a0] w fun e w' => e = .returned (.bool true) ∧ Grown w w' := by
  unfold maxLen at w0
  by_cases hbig : 4096 < a0.size
  · go_enter Yba.func7, Yba.ntmps7
    go_wp2
    go_ret
    exact ⟨rfl, Grown.refl _⟩
  · go_enter Yba.func7, Yba.ntmps7
    go_wp2
    go_loop [3, 4] (fun n i => ∃ k : Nat, k ≤ a0.size ∧ i = .int .i64 k ∧ n = .int .i64 (cntD (a0.data.toList.take k))) (fun _ i => a0.size - (intOf i).toNat)
    case atStart => exact ⟨0, Nat.zero_le _, rfl, rfl⟩
    case round =>
      obtain ⟨k, hk, rfl, rfl⟩ := hrel
      have hl := cnt_le (a0.data.toList.take k)
      have hl2 : (a0.data.toList.take k).length ≤ k := List.length_take_le _ _
      by_cases hlt : k < a0.size
      · have HS : Hid (cntD (a0.data.toList.take (k + 1)) = cntD (a0.data.toList.take k) + (dgB a0[k]).toNat) := by
          rw [take_snoc a0 k hlt]; exact cnt_snoc _ _
        go_wp2
        · have HD : Hid (dgB a0[k] = true) := dg_mod_yes ‹_›
          go_round
          case rel => exact ⟨k + 1, by omega, by go_num, by rw [HS.out, HD.out]; go_num⟩
          case measure => simp [intOf]; omega
        · have HD : Hid (dgB a0[k] = false) := dg_mod_no ‹_›
          go_round
          case rel => exact ⟨k + 1, by omega, by go_num, by rw [HS.out, HD.out]; go_num⟩
          case measure => simp [intOf]; omega
      · have HE : Hid (a0.data.toList.take k = a0.data.toList) := List.take_of_length_le (by simp; omega)
        by_cases h0 : 0 < a0.size
        · go_wp2_with (go_at_call 18; refine (digits_any _ _ (by unfold maxLen; omega)).mono ?_; rintro e w' ⟨rfl, rfl⟩)
          go_ret
          exact ⟨ret_bool (cm_pos a0 k HE.out h0), Grown.refl _⟩
        · go_wp2_with (go_at_call 18; refine (digits_any _ _ (by unfold maxLen; omega)).mono ?_; rintro e w' ⟨rfl, rfl⟩)
          go_ret
          exact ⟨ret_bool (cm_neg a0 h0), Grown.refl _⟩

/-! ### The row's step -/
set_option maxRecDepth 100000 in
theorem lifted (os : Os) (started : os.Started) (H : Type) (enc : TypeId × Value → H) :
    ReturnsInHanded {} Yba.checked os 7 .any (Rows.lawS5278CModelSpec.pre6 enc Yba.prog Yba.f7 Rows.lawS5278CModelRow.domain false) (Rows.lawS5278CModelSpec.post enc Yba.prog Yba.f7 false true false false) := by
  refine returnsInHanded_of_change (C := Yba.checked) own started (by kernel_rfl) Yba.func7
    (ChangeSpec.witness6 (enc := enc) (C := Yba.checked) false ⟨#[], #[.string ByteArray.empty], []⟩ 8 (by kernel_rfl) (by kernel_rfl) (by kernel_rfl) (by kernel_rfl)) ?_
  intro W base args ds gs before hval0 hW hcnd _
  have hval : ∀ (j : Nat) t v, Yba.f7.params[j]? = some t → args[j]? = some v → Value.okWide Yba.prog W .any base t v := hval0
  have hW' := hW
  obtain ⟨p, q, hA0, hV, rfl, hfz, hnd⟩ := hW
  have hA : DataW.TrodAll enc Yba.prog W 0 (fun _ => true) true Yba.f7.params.toList args.toList ds p := hA0
  rw [Yba.params7] at hA hval
  obtain ⟨v0, vs0, d0, ds0, p0, q0, hargs, rfl, rfl, h0, r0⟩ := trodAll_cons hA
  obtain ⟨rfl, rfl, rfl⟩ := trodAll_nil r0
  obtain rfl : args = #[v0] := by cases args; simp_all
  obtain ⟨rfl, rfl⟩ := trodVars_none hV
  obtain ⟨a0, rfl, rfl, rfl, w0⟩ := open_string Yba.underlying9 (hval 0 9 v0 rfl rfl) h0
  clear hA0 hval0
  simp only [List.append_nil] at hW'
  refine (walk a0 w0 W).mono fun e W' ⟨he, hg⟩ => ?_
  subst he
  exact ⟨_, rfl, post_of_same (pa := []) (pv := []) hW' (fun _ _ _ => (trodAll_cons_mk (shut_bool Yba.underlying4 _) trodAll_mk0)) (fun sp _ => (trodAll_cons_mk (shut_string Yba.underlying9 w0) trodAll_mk0)) (fun _ _ => rfl) rfl
    (hg.frame _) hg.2.1 (ok_one (by kernel_rfl) rfl (okWide_bool_mk Yba.underlying4 _))⟩

theorem over : Rows.lawS5278CModelRow.holds Yba.pinned (OpenSpec.ofChange Rows.lawS5278CModelSpec) :=
  OpenClaim.holds_of_wide 7 Yba.f7 rfl rfl rfl rfl rfl rfl rfl ⟨rfl, rfl, rfl, rfl, rfl⟩ rfl rfl rfl rfl rfl (by kernel_rfl) Yba.func7 (by kernel_rfl)
    (of_decide_eq_true (by kernel_rfl)) (by unfold Func.isWrapper; first | (rw [if_pos (by decide +kernel)]; kernel_rfl) | (rw [if_neg (by decide +kernel)]; exact ⟨rfl, rfl⟩))
    (fun os started H enc _ => lifted os started H enc)

/-- THE STATEMENT -/
theorem proved : Rows.LawS5278CModelSaid :=
  over
#print axioms proved
end Go.Proofs.Ybulkdeha.lawS5278CModel
