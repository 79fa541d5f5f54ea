/-
  Walks: slices.BinarySearchFunc at samples (23), firstAfter (21), windowBounds (19).
-/
import Derived.Test.YbulkdehaRates
namespace Go.Proofs.Ybulkdeha
open Go.RowKit

/-- The samples xs lie at a: two cells each. -/
def Lies (w : World) (a : Option Addr) (xs : List Smp) : Prop :=
  xs = [] ∨ ∃ b o, a = some ⟨b, o, none⟩ ∧ b < w.heap.size ∧ ∀ i (h : i < xs.length), w.cell? ⟨b, o + i * 2, none⟩ = some (.int .i64 (xs[i]).1) ∧ w.cell? ⟨b, o + i * 2 + 1, none⟩ = some (.float .f64 (xs[i]).2)

/-- The search's own steps, with fuel. -/
def bsGo (xs : List Smp) (t : Int) : Nat → Nat → Nat → Nat
  | 0, i, _ => i
  | f + 1, i, j => if i < j then (if t < (xs.getD ((i + j) / 2) (0, 0)).1 then bsGo xs t f i ((i + j) / 2) else bsGo xs t f ((i + j) / 2 + 1) j) else i
def bs (xs : List Smp) (t : Int) : Nat := bsGo xs t xs.length 0 xs.length

theorem bsGo_stop (xs : List Smp) (t : Int) (f i : Nat) : bsGo xs t f i i = i := by
  cases f with
  | zero => rfl
  | succ f => rw [bsGo, if_neg (by omega)]

set_option maxHeartbeats 1000000 in
theorem search_any (a : Option Addr) (n c : Nat) (xs : List Smp) (t : Int) (w : World) (hl : Lies w a xs) (hn : xs.length = n) (hn2 : n ≤ 1024) :
    Calls Yba.prog 23 #[.slice a n c, .int .i64 t, .func (.func 24) #[] #[]] w fun e w' => e = .returned (.tuple #[.int .i64 (bs xs t : Nat), .bool false]) ∧ Below w.heap.size w w' := by
  have HL : Hid (Lies w a xs) := hl
  have HN : Hid (xs.length = n) := hn
  clear hl hn
  go_enter Yba.func23, Yba.ntmps23
  go_wp2_with fail
  go_loopw [9, 10] (fun vi vj wr => ∃ i j f : Nat, i ≤ j ∧ j ≤ n ∧ j - i ≤ f ∧ bsGo xs t f i j = bs xs t ∧ vi = .int .i64 i ∧ vj = .int .i64 j ∧ Below w.heap.size w wr) (fun vi vj _ => (intOf vj).toNat - (intOf vi).toNat)
  case atStart => exact ⟨0, n, n, Nat.zero_le _, Nat.le_refl _, by omega, by unfold bs; rw [HN.out], rfl, rfl, Below.refl _ _⟩
  case round =>
    obtain ⟨i, j, f, hij, hjn, hf, hbs, rfl, rfl, hb⟩ := hrel
    have HB : Hid (bsGo xs t f i j = bs xs t) := hbs
    clear hbs
    by_cases hlt : i < j
    · have hh : (i + j) / 2 < n := by omega
      rcases HL.out with he | ⟨b, o, ha, hbl, hcell⟩
      · have := HN.out; rw [he] at this; simp at this; omega
      · subst ha
        obtain ⟨f', rfl⟩ : ∃ f', f = f' + 1 := ⟨f - 1, by omega⟩
        have hlen : (i + j) / 2 < xs.length := by have := HN.out; omega
        have hc := hcell ((i + j) / 2) hlen
        have hx : xs.getD ((i + j) / 2) (0, 0) = xs[(i + j) / 2] := by simp [List.getD, hlen]
        have HX : Hid (xs.getD ((i + j) / 2) (0, 0) = xs[(i + j) / 2]) := hx
        clear hx hcell
        have hc1 := (hb.cell (p := ⟨b, o + (i + j) / 2 * 2, none⟩) hbl).trans hc.1
        have hc2 := (hb.cell (p := ⟨b, o + (i + j) / 2 * 2 + 1, none⟩) hbl).trans hc.2
        clear hc
        generalize xs[(i + j) / 2] = x at *
        obtain ⟨T, V⟩ := x
        have hsz := hb.size
        by_cases ht : t < T
        · have HG : Hid (bsGo xs t f' i ((i + j) / 2) = bs xs t) := by
            show _ = _
            rw [← HB.out, bsGo, if_pos hlt, HX.out, if_pos ht]
          clear HB
          go_wp2_with (go_at_call 24; refine (after_any _ _ _ _).mono ?_; rintro e w' ⟨rfl, rfl⟩; rw [if_pos ht])
          go_roundw
          case rel => exact ⟨i, (i + j) / 2, f', by omega, by omega, by omega, HG.out, rfl, by go_num, hb.alloc hsz _⟩
          case measure => simp [intOf]; omega
        · have HG : Hid (bsGo xs t f' ((i + j) / 2 + 1) j = bs xs t) := by
            show _ = _
            rw [← HB.out, bsGo, if_pos hlt, HX.out, if_neg ht]
          clear HB
          go_wp2_with (go_at_call 24; refine (after_any _ _ _ _).mono ?_; rintro e w' ⟨rfl, rfl⟩; rw [if_neg ht])
          go_roundw
          case rel => exact ⟨(i + j) / 2 + 1, j, f', by omega, by omega, by omega, HG.out, by go_num, rfl, hb.alloc hsz _⟩
          case measure => simp [intOf]; omega
    · obtain rfl : i = j := by omega
      have HG : Hid (bs xs t = i) := by
        show _ = _
        rw [← HB.out]; exact bsGo_stop xs t f i
      clear HB
      by_cases hin : i < n
      · rcases HL.out with he | ⟨b, o, ha, hbl, hcell⟩
        · have := HN.out; rw [he] at this; simp at this; omega
        · subst ha
          have hlen : i < xs.length := by have := HN.out; omega
          have hc := hcell i hlen
          clear hcell
          have hc1 := (hb.cell (p := ⟨b, o + i * 2, none⟩) hbl).trans hc.1
          have hc2 := (hb.cell (p := ⟨b, o + i * 2 + 1, none⟩) hbl).trans hc.2
          clear hc
          generalize xs[i] = x at *
          obtain ⟨T, V⟩ := x
          have hsz := hb.size
          by_cases ht : t < T
          · go_wp2_with (go_at_call 24; refine (after_any _ _ _ _).mono ?_; rintro e w' ⟨rfl, rfl⟩; rw [if_pos ht])
            go_ret2
            exact ⟨by rw [HG.out]; rfl, hb.alloc hsz _⟩
          · go_wp2_with (go_at_call 24; refine (after_any _ _ _ _).mono ?_; rintro e w' ⟨rfl, rfl⟩; rw [if_neg ht])
            go_ret2
            exact ⟨by rw [HG.out]; rfl, hb.alloc hsz _⟩
      · go_wp2_with fail
        go_ret2
        exact ⟨by rw [HG.out]; rfl, hb⟩

theorem first_any (a : Option Addr) (n c : Nat) (xs : List Smp) (t : Int) (w : World) (hl : Lies w a xs) (hn : xs.length = n) (hn2 : n ≤ 1024) :
    Calls Yba.prog 21 #[.slice a n c, .int .i64 t] w fun e w' => e = .returned (.int .i64 (bs xs t : Nat)) ∧ Below w.heap.size w w' := by
  go_enter Yba.func21, Yba.ntmps21
  go_wp2_with fail
  refine (search_any a n c xs t _ hl hn hn2).mono ?_
  rintro e w' ⟨rfl, hb⟩
  clear hl hn hn2
  have HB : Hid (Below w.heap.size w w') := hb
  clear hb
  go_wp2
  go_ret
  exact ⟨rfl, HB.out⟩

/-- the window in whole milliseconds, rounded up -/
def reach (win : Int) : Int := win / 1000000 + (if win % 1000000 = 0 then 0 else 1)
def wbounds (xs : List Smp) (at_ win : Int) : Nat × Nat :=
  if win ≤ 0 then (bs xs at_, bs xs at_) else if at_ < -9223372036854775808 + reach win then (0, bs xs at_) else (min (bs xs (at_ - reach win)) (bs xs at_), bs xs at_)

theorem Lies.below {w w' : World} {a : Option Addr} {xs : List Smp} (h : Lies w a xs) (hb : Below w.heap.size w w') : Lies w' a xs := by
  rcases h with h | ⟨b, o, ha, hbl, hc⟩
  · exact Or.inl h
  · refine Or.inr ⟨b, o, ha, Nat.lt_of_lt_of_le hbl hb.size, fun i hi => ?_⟩
    exact ⟨(hb.cell (p := ⟨b, o + i * 2, none⟩) hbl).trans (hc i hi).1, (hb.cell (p := ⟨b, o + i * 2 + 1, none⟩) hbl).trans (hc i hi).2⟩

set_option maxHeartbeats 400000 in
theorem bounds_any (a : Option Addr) (n c : Nat) (xs : List Smp) (at_ win : Int) (w : World) (hl : Lies w a xs) (hn : xs.length = n) (hn2 : n ≤ 1024)
    (ha1 : -9223372036854775808 ≤ at_) (ha2 : at_ ≤ 9223372036854775807) (hw1 : -9223372036854775808 ≤ win) (hw2 : win ≤ 9223372036854775807) :
    Calls Yba.prog 19 #[.slice a n c, .int .i64 at_, .int .i64 win] w fun e w' => e = .returned (.tuple #[.int .i64 ((wbounds xs at_ win).1 : Nat), .int .i64 ((wbounds xs at_ win).2 : Nat)]) ∧ Below w.heap.size w w' := by
  by_cases h0 : win ≤ 0
  · have HW : Hid (wbounds xs at_ win = (bs xs at_, bs xs at_)) := by show _ = _; unfold wbounds; rw [if_pos h0]
    go_enter Yba.func19, Yba.ntmps19
    go_wp2_with fail
    refine (first_any a n c xs at_ _ hl hn hn2).mono ?_
    rintro e w' ⟨rfl, hb⟩
    clear hl hn
    go_wp2
    go_ret2
    exact ⟨by rw [HW.out]; rfl, hb⟩
  · have hp : 0 < win := by omega
    by_cases hm : win % 1000000 = 0
    · have hre : reach win = win / 1000000 := by unfold reach; rw [if_pos hm]; omega
      have hm' : (win % 1000000 != 0) = false := by simp [hm]
      clear hm
      by_cases hlow : at_ < -9223372036854775808 + win / 1000000
      · have HW : Hid (wbounds xs at_ win = (0, bs xs at_)) := by show _ = _; unfold wbounds; rw [if_neg h0, if_pos (by rw [hre]; exact hlow)]
        clear hre
        go_enter Yba.func19, Yba.ntmps19
        go_wp2_with fail
        refine (first_any a n c xs at_ _ hl hn hn2).mono ?_
        rintro e w' ⟨rfl, hb⟩
        clear hl hn
        go_wp2_with fail
        go_ret2
        exact ⟨by rw [HW.out]; rfl, hb⟩
      · have HW : Hid (wbounds xs at_ win = (min (bs xs (at_ - (win / 1000000))) (bs xs at_), bs xs at_)) := by show _ = _; unfold wbounds; rw [if_neg h0, if_neg (by rw [hre]; exact hlow), hre]
        clear hre
        go_enter Yba.func19, Yba.ntmps19
        go_wp2_with fail
        refine (first_any a n c xs at_ _ hl hn hn2).mono ?_
        rintro e w1 ⟨rfl, hb⟩
        have hl1 := hl.below hb
        have HL : Hid (Lies w1 a xs) := hl1
        have HN : Hid (xs.length = n) := hn
        clear hl hn hl1
        go_wp2_with fail
        refine (first_any a n c xs (at_ - (win / 1000000)) _ HL.out HN.out hn2).mono ?_
        rintro e w2 ⟨rfl, hb2⟩
        clear HL HN
        have hb3 : Below w.heap.size w w2 := hb.trans (hb2.mono hb.size)
        clear hb2
        go_wp2_with fail
        · go_ret2
          exact ⟨by rw [HW.out, Nat.min_eq_right (by omega)]; rfl, hb3⟩
        · go_ret2
          exact ⟨by rw [HW.out, Nat.min_eq_left (by omega)]; rfl, hb3⟩
    · have hre : reach win = win / 1000000 + 1 := by unfold reach; rw [if_neg hm]
      have hm' : (win % 1000000 != 0) = true := by simp [hm]
      clear hm
      by_cases hlow : at_ < -9223372036854775808 + (win / 1000000 + 1)
      · have HW : Hid (wbounds xs at_ win = (0, bs xs at_)) := by show _ = _; unfold wbounds; rw [if_neg h0, if_pos (by rw [hre]; exact hlow)]
        clear hre
        go_enter Yba.func19, Yba.ntmps19
        go_wp2_with fail
        refine (first_any a n c xs at_ _ hl hn hn2).mono ?_
        rintro e w' ⟨rfl, hb⟩
        clear hl hn
        go_wp2_with fail
        go_ret2
        exact ⟨by rw [HW.out]; rfl, hb⟩
      · have HW : Hid (wbounds xs at_ win = (min (bs xs (at_ - (win / 1000000 + 1))) (bs xs at_), bs xs at_)) := by show _ = _; unfold wbounds; rw [if_neg h0, if_neg (by rw [hre]; exact hlow), hre]
        clear hre
        go_enter Yba.func19, Yba.ntmps19
        go_wp2_with fail
        refine (first_any a n c xs at_ _ hl hn hn2).mono ?_
        rintro e w1 ⟨rfl, hb⟩
        have hl1 := hl.below hb
        have HL : Hid (Lies w1 a xs) := hl1
        have HN : Hid (xs.length = n) := hn
        clear hl hn hl1
        go_wp2_with fail
        refine (first_any a n c xs (at_ - (win / 1000000 + 1)) _ HL.out HN.out hn2).mono ?_
        rintro e w2 ⟨rfl, hb2⟩
        clear HL HN
        have hb3 : Below w.heap.size w w2 := hb.trans (hb2.mono hb.size)
        clear hb2
        go_wp2_with fail
        · go_ret2
          exact ⟨by rw [HW.out, Nat.min_eq_right (by omega)]; rfl, hb3⟩
        · go_ret2
          exact ⟨by rw [HW.out, Nat.min_eq_left (by omega)]; rfl, hb3⟩
end Go.Proofs.Ybulkdeha
