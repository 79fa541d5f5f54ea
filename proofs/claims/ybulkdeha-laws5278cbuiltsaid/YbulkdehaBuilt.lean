/-
  The walk of LawS5278CBuilt (function 8).
-/
import Derived.Test.YbulkdehaDigits
import Derived.Laws.BytesArg
namespace Go.Proofs.Ybulkdeha
open Go.RowKit

theorem Yba.info5 : (Yba.prog.info? 5).map (fun i => (i.zero, i.size, i.bytes)) = some (some (.int .u8 0), 1, 1) := by kernel_rfl

def dig (z : Int) : Int := 48 + z % 10
def dgs (zs : List Int) (k : Nat) : List Int := (zs.take k).map dig

theorem dgs_succ (zs : List Int) (k : Nat) (h : k < zs.length) : dgs zs (k + 1) = dgs zs k ++ [48 + zs.getD k 0 % 10] := by
  unfold dgs
  rw [List.take_succ_eq_append_getElem h, List.map_append]
  simp [dig, List.getD, h]

theorem dgs_length (zs : List Int) (k : Nat) (h : k ≤ zs.length) : (dgs zs k).length = k := by
  unfold dgs; simp; omega
theorem dgs_cell (zs : List Int) (k i : Nat) (hi : i < k) (h : k ≤ zs.length) : ((dgs zs k).map (Value.int .u8))[i]? = some (.int .u8 ((dgs zs k).getD i 0)) := by
  have hl := dgs_length zs k h
  have : i < (dgs zs k).length := by omega
  simp [List.getD, this]
theorem dig_dg (z : Int) : dgB (UInt8.ofNat (dig z).toNat) = true := by
  unfold dgB dig
  have h : ((48 + z % 10).toNat) % 256 = (48 + z % 10).toNat := by omega
  rw [decide_eq_true_eq, UInt8.toNat_ofNat', h]
  omega
theorem all_dgs (zs : List Int) (k : Nat) (h : k ≤ zs.length) : allD (strOfNums (dgs zs k)).data.toList = decide (0 < (k : Int)) := by
  rw [strOfNums_data]
  unfold allD
  have h1 : allB ((dgs zs k).map fun n => UInt8.ofNat n.toNat) = true := by
    unfold allB dgs
    rw [List.all_eq_true]
    intro x hx
    simp only [List.map_map, List.mem_map, Function.comp] at hx
    obtain ⟨z, _, rfl⟩ := hx
    exact dig_dg z
  rw [h1, Bool.and_true]
  have hl := dgs_length zs k h
  rw [Bool.eq_iff_iff]
  simp only [Bool.not_eq_true', List.isEmpty_eq_false_iff, decide_eq_true_eq, ne_eq, List.map_eq_nil_iff]
  constructor
  · intro hne
    have : (dgs zs k).length ≠ 0 := fun h0 => hne (List.eq_nil_of_length_eq_zero h0)
    omega
  · intro hk he
    rw [he] at hl; simp at hl; omega

theorem dig_cells {w : World} {B zn : Nat} {zs : List Int} {k p : Nat} (h : w.ownsRow B 5 1 (.slice (some ⟨zn, 0, none⟩) k k) k ((dgs zs k).map (Value.int .u8))) (hz : k ≤ zs.length) (hpk : p ≤ k) :
    ∀ j u, ((dgs zs p).map (Value.int .u8))[j]? = some u → w.cell? ((⟨zn, 0, none⟩ : Addr).add j) = some u := by
  intro j u hj
  have hjp : j < p := by
    have := (List.getElem?_eq_some_iff.1 hj).1
    simpa [dgs_length zs p (by omega)] using this
  rw [Addr.add_lit, Nat.zero_add, h.cellAt j (by omega), ← hj]
  unfold dgs
  simp [hjp, show j < k from by omega]

theorem mixed_conv (w8 : World) (B g : Nat) (zs : List Int) (k p : Nat) (bd : Int) (hz : k ≤ zs.length) (hpk : p ≤ k) (hb0 : 0 ≤ bd) (hb1 : bd ≤ 255) (hbd : bd < 48 ∨ 57 < bd)
    (hown : w8.ownsRow B 5 1 (.slice (some ⟨g, 0, none⟩) (p + 1 + (k - p)) (k + 1)) (p + 1 + (k - p)) (((dgs zs p).map (Value.int .u8) ++ [.int .u8 bd]) ++ ((dgs zs k).drop p).map (Value.int .u8))) :
    ∃ s8 : ByteArray, (convert 48 9 (.slice (some ⟨g, 0, none⟩) (p + 1 + (k - p)) (k + 1))).run Yba.prog w8 = .ok (.string s8) w8 ∧ s8.size ≤ maxLen ∧ Hid (allD s8.data.toList = false) := by
  have e1 : ((dgs zs p).map (Value.int .u8) ++ [.int .u8 bd]) ++ ((dgs zs k).drop p).map (Value.int .u8) = ((dgs zs p ++ [bd]) ++ (dgs zs k).drop p).map (Value.int .u8) := by simp
  have hl : ((dgs zs p ++ [bd]) ++ (dgs zs k).drop p).length = p + 1 + (k - p) := by simp [dgs_length zs p (by omega), dgs_length zs k hz]; omega
  rw [e1] at hown
  have hmem : bd ∈ (dgs zs p ++ [bd]) ++ (dgs zs k).drop p := by simp
  generalize (dgs zs p ++ [bd]) ++ (dgs zs k).drop p = xs at *
  refine ⟨strOfNums xs, run_convert_bytes_arg (P := Yba.prog) w8 48 5 Yba.underlying48 Yba.underlying5 g 0 _ _ xs hl (fun i hi => ?_) 9 Yba.underlying9, ?_, ?_⟩
  · rw [Nat.zero_add, hown.cellAt i (by omega)]
    have : i < xs.length := by omega
    simp [List.getD, this]
  · rw [strOfNums_size, hl]; have := hown.2; unfold maxLen; rcases this with ⟨h, _⟩ | ⟨g', cap', cur, h, _, _, h3, h4, _⟩
    · cases h
    · cases h; unfold maxLen at h4; omega
  · show allD _ = false
    rw [strOfNums_data]
    unfold allD allB
    have : (xs.map fun n => UInt8.ofNat n.toNat).all dgB = false := by
      rw [List.all_eq_false]
      refine ⟨UInt8.ofNat bd.toNat, List.mem_map.2 ⟨bd, hmem, rfl⟩, ?_⟩
      unfold dgB
      rw [decide_eq_true_eq, UInt8.toNat_ofNat', Nat.mod_eq_of_lt (by omega)]
      omega
    rw [this, Bool.and_false]

theorem below_chain {B : Nat} {w wr w5 w6 w7 w8 : World} (hb : Below B w wr) (hB : B ≤ wr.heap.size) (g5 : wr.grownBy w5 none) (g6 : w5.grownBy w6 (some wr.heap.size)) (o : Obj)
    (g7 : (w6.alloc o).grownBy w7 (some wr.heap.size)) (g8 : w7.grownBy w8 (some wr.heap.size)) : Below B w w8 := by
  have s5 := g5.size
  have s6 := g6.size
  have s7 := g7.size
  have s7a : (w6.alloc o).heap.size = w6.heap.size + 1 := by simp
  have r : ∀ k, some wr.heap.size = some k → B ≤ k := fun k hk => by cases hk; exact hB
  exact ((((hb.grown g5 hB (fun k hk => by cases hk)).grown g6 (by omega) r).alloc (by omega) o).grown g7 (by omega) r).grown g8 (by omega) r

set_option maxHeartbeats 1000000 in
theorem built (a0 : Option Addr) (n cap0 : Nat) (zs : List Int) (a1 a2 : Int) (w : World) (hn : n ≤ 1024) (hz : n ≤ zs.length)
    (hcell : ∀ k, k < n → ∃ b off, a0 = some ⟨b, off, none⟩ ∧ b < w.heap.size ∧ w.cell? ⟨b, off + k, none⟩ = some (.int .u8 (zs.getD k 0)) ∧ 0 ≤ zs.getD k 0 ∧ zs.getD k 0 ≤ 255)
    (h10 : 0 ≤ a1) (h11 : a1 ≤ 65535) (h20 : 0 ≤ a2) (h21 : a2 ≤ 255) :
    Calls Yba.prog 8 #[.slice a0 n cap0, .int .u16 a1, .int .u8 a2] w fun e w' => e = .returned (.bool true) ∧ Below w.heap.size w w' := by
  have HC : Hid (∀ k, k < n → ∃ b off, a0 = some ⟨b, off, none⟩ ∧ b < w.heap.size ∧ w.cell? ⟨b, off + k, none⟩ = some (.int .u8 (zs.getD k 0)) ∧ 0 ≤ zs.getD k 0 ∧ zs.getD k 0 ≤ 255) := hcell
  clear hcell
  obtain ⟨i0, hi, hz0, hz1, hz2⟩ := info_parts Yba.info5
  go_enter Yba.func8, Yba.ntmps8
  go_wp2_with (at_make; refine wpList_make_own _ rfl _ _ 48 rfl w.heap.size 5 i0 (.int .u8 0) 1 Yba.underlying48 hi hz0 hz1 _ _ _ n rfl rfl (by omega) (by rw [hz2]; omega) (by unfold maxLen; omega) (Nat.le_refl _) ?_; intro w1 hown hgrow)
  have hb1 : Below w.heap.size w w1 := (Below.refl _ _).grown hgrow (Nat.le_refl _) (by intro k hk; cases hk)
  clear hgrow
  go_loopw [7, 8] (fun v i wr => ∃ k : Nat, k ≤ n ∧ i = .int .i64 k ∧ v = .slice (some ⟨w.heap.size, 0, none⟩) k n ∧ wr.ownsRow w.heap.size 5 1 (.slice (some ⟨w.heap.size, 0, none⟩) k n) k ((dgs zs k).map (Value.int .u8)) ∧ Below w.heap.size w wr) (fun _ i _ => n - (intOf i).toNat)
  case atStart => exact ⟨0, Nat.zero_le _, rfl, rfl, hown, hb1⟩
  case round =>
    obtain ⟨k, hk, rfl, rfl, hown2, hb2⟩ := hrel
    by_cases hlt : k < n
    · obtain ⟨b, off, ha, hbl, hc, hc0, hc1⟩ := HC.out k hlt
      subst ha
      have hc2 : wr.cell? ⟨b, off + k, none⟩ = some (.int .u8 (zs.getD k 0)) := (hb2.cell (p := ⟨b, off + k, none⟩) hbl).trans hc
      generalize hx : zs.getD k 0 = x at *
      have HX : Hid (zs.getD k 0 = x) := hx
      clear hx
      go_wp2_with (at_builtin; refine wpList_append_fits _ rfl _ _ 48 rfl w.heap.size 5 i0 1 Yba.underlying48 hi hz1 w.heap.size k n _ rfl (hown2.alloc _) ⟨wr.heap.size, 0, none⟩ 1 1 [.int .u8 (48 + x % 10)] rfl rfl (by intro t u ht; match t, ht with | 0, ht => simp at ht; subst ht; simp [Addr.add]) (by intro u hu; simp at hu; subst hu; rfl) (by omega) ?_; intro w3 hown3 hgrow3)
      have hb3 : Below w.heap.size w w3 := (hb2.alloc hb2.size _).grown hgrow3 (by have := hb2.size; simp; omega) (by intro q hq; cases hq; exact Nat.le_refl _)
      clear hgrow3 hown2 hb2 hc2
      go_roundw
      case rel => exact ⟨k + 1, by omega, by go_num, rfl, by rw [dgs_succ zs k (by omega), HX.out, List.map_append]; exact hown3, hb3⟩
      case measure => simp [intOf]; omega
    · have hkn : k = n := by omega
      subst hkn
      have hcv := run_convert_bytes_arg (P := Yba.prog) wr 48 5 Yba.underlying48 Yba.underlying5 w.heap.size 0 k k (dgs zs k) (dgs_length zs k hz) (fun i hi => by
        rw [Nat.zero_add, hown2.cellAt i (by omega)]; exact dgs_cell zs k i hi hz) 9 Yba.underlying9
      have hsz := strOfNums_size (dgs zs k)
      rw [dgs_length zs k hz] at hsz
      have HD : Hid (allD (strOfNums (dgs zs k)).data.toList = decide (0 < (k : Int))) := all_dgs zs k hz
      generalize strOfNums (dgs zs k) = s1 at *
      have hsz' : s1.size ≤ maxLen := by unfold maxLen; omega
      have HZ : Hid (s1.size = k) := hsz
      clear hsz
      obtain ⟨p, hp⟩ : ∃ p : Nat, a1 % ((k : Int) + 1) = (p : Int) := ⟨(a1 % ((k : Int) + 1)).toNat, by have := Int.emod_nonneg a1 (b := (k : Int) + 1) (by omega); omega⟩
      have hpk : p ≤ k := by have := Int.emod_lt_of_pos a1 (b := (k : Int) + 1) (by omega); omega
      obtain ⟨bd, hbd0, hbd1, HB, hway⟩ : ∃ bd : Int, 0 ≤ bd ∧ bd ≤ 255 ∧ Hid (bd < 48 ∨ 57 < bd) ∧ ((a2 < 48 ∧ bd = a2) ∨ (57 < a2 ∧ bd = a2) ∨ (48 ≤ a2 ∧ a2 ≤ 57 ∧ a2 + 10 = bd)) := by
        by_cases q1 : a2 < 48
        · exact ⟨a2, h20, h21, Or.inl q1, Or.inl ⟨q1, rfl⟩⟩
        · by_cases q2 : 57 < a2
          · exact ⟨a2, h20, h21, Or.inr q2, Or.inr (Or.inl ⟨q2, rfl⟩)⟩
          · exact ⟨a2 + 10, by omega, by omega, Or.inr (by omega), Or.inr (Or.inr ⟨by omega, by omega, rfl⟩)⟩
      rcases hway with ⟨q1, rfl⟩ | ⟨q1, rfl⟩ | ⟨q1, q2, hbd⟩
      all_goals
        have hlt4 : w.heap.size < wr.heap.size := (hown2.lt w.heap.size rfl).2
        have hsz4 := hb2.size
        go_wp2_with (first
          | (go_at_call 18; refine (digits_any _ _ (by assumption)).mono ?_; rintro e w4 ⟨rfl, hw⟩; obtain rfl := hw.symm; first | rw [HD.out] | rw [HD8.out])
          | (at_make; (try rw [hp]); refine wpList_make_own _ rfl _ _ 48 rfl w.heap.size 5 i0 (.int .u8 0) 1 Yba.underlying48 hi hz0 hz1 _ _ _ (k + 1) rfl rfl (by omega) (by rw [hz2]; omega) (by unfold maxLen; omega) hsz4 ?_; intro w5 hown5 hgrow5; have hdig5 := hown2.kept hgrow5 (Or.inr (by simp [Value.ownBlock])))
          | (at_builtin; refine wpList_append_fits_any _ rfl (.tmp 59) (.tmp 62) 48 rfl w.heap.size 5 i0 1 Yba.underlying48 hi hz1 wr.heap.size 0 (k + 1) _ rfl hown5 _ p _ ((dgs zs p).map (Value.int .u8)) rfl (by simp [dgs_length zs p (by omega)]) (by intro h; cases h) (by intro ad had j u hj; cases had; exact dig_cells hdig5 hz hpk j u hj) (ints_oneCell _ _) (by omega) ?_; intro w6 hown6 hgrow6; simp only [Nat.zero_add, List.nil_append] at hown6; have hdig6 := hdig5.kept hgrow6 (Or.inr (by simp [Value.ownBlock]; omega)))
          | (at_builtin; refine wpList_append_fits _ rfl (.tmp 64) (.tmp 66) 48 rfl w.heap.size 5 i0 1 Yba.underlying48 hi hz1 wr.heap.size p (k + 1) _ rfl (hown6.alloc _) ⟨w6.heap.size, 0, none⟩ 1 1 [.int .u8 bd] rfl rfl (by intro t u ht; match t, ht with | 0, ht => simp at ht; subst ht; simp [Addr.add]) (by intro u hu; simp at hu; subst hu; rfl) (by omega) ?_; intro w7 hown7 hgrow7; have hdig7 := (hdig6.alloc _).kept hgrow7 (Or.inr (by simp [Value.ownBlock]; omega)))
          | (at_builtin; refine wpList_append_fits_any _ rfl (.tmp 68) (.tmp 71) 48 rfl w.heap.size 5 i0 1 Yba.underlying48 hi hz1 wr.heap.size (p + 1) (k + 1) _ rfl hown7 _ (k - p) _ (((dgs zs k).drop p).map (Value.int .u8)) rfl (by simp [dgs_length zs k hz]) (by intro h; first | cases h | (split at h <;> cases h)) (cells_from (dgs_length zs k hz) (Nat.le_refl _) (fun t ht => by rw [Nat.zero_add, hdig7.cellAt t (by omega)]; exact dgs_cell zs k t ht hz) (by intro h; first | rfl | simp [h])) (ints_oneCell _ _) (by omega) ?_; intro w8 hown8 hgrow8; obtain ⟨s8, hcv8, hs8, HD8⟩ := mixed_conv w8 w.heap.size wr.heap.size zs k p bd hz hpk hbd0 hbd1 HB.out hown8))
        all_goals
          go_ret
          exact ⟨rfl, below_chain hb2 hsz4 hgrow5 hgrow6 _ hgrow7 hgrow8⟩
end Go.Proofs.Ybulkdeha
