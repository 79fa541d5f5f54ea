/-
  Walks: (bigEndian).Uint32 (7), messageLength (5), zzs5282amodel (6).
-/
import Derived.Test.YbulkdejeFmtFacts
import Derived.WalkKit
import Derived.Deep.QuietTactic
import Derived.BigQuiet
import Derived.Lib.EndianBits
import Derived.WalkSmall
namespace Go.Proofs.YbulkdejeFmt
open Go.RowKit Go.Extern.Stop Go.Stop Go.Extern
attribute [local go_sem] call9 guard fmt0 fmt0r op24 op24w op3 op3w ptr41 elem41 isError41

theorem ret_int {k : IntKind} {a b : Int} (h : a = b) : Ending.returned (.int k a) = .returned (.int k b) := by rw [h]

set_option maxRecDepth 100000 in
set_option maxHeartbeats 1000000 in
theorem be32 (g o n c : Nat) (x0 x1 x2 x3 : Int) (w : World) (hn : 4 ≤ n) (hg : g < w.heap.size)
    (c0 : w.cell? ⟨g, o, none⟩ = some (.int .u8 x0)) (c1 : w.cell? ⟨g, o + 1, none⟩ = some (.int .u8 x1)) (c2 : w.cell? ⟨g, o + 2, none⟩ = some (.int .u8 x2)) (c3 : w.cell? ⟨g, o + 3, none⟩ = some (.int .u8 x3))
    (h0 : 0 ≤ x0 ∧ x0 ≤ 255) (h1 : 0 ≤ x1 ∧ x1 ≤ 255) (h2 : 0 ≤ x2 ∧ x2 ≤ 255) (h3 : 0 ≤ x3 ∧ x3 ≤ 255) :
    Calls Ybaf.prog 7 #[.agg #[], .slice (some ⟨g, o, none⟩) n c] w fun e w' => e = .returned (.int .u32 (x3 + x2 * 256 + x1 * 65536 + x0 * 16777216)) ∧ Below w.heap.size w w' := by
  have i0 : (0 : Nat) < n := by omega
  have i1 : (1 : Int) < (n : Int) := by omega
  have i2 : (2 : Int) < (n : Int) := by omega
  have i3 : (3 : Int) < (n : Int) := by omega
  go_enter Ybaf.func7, Ybaf.ntmps7
  go_wp2_with fail
  go_quiet (fail)
  go_wp2_with fail
  go_ret
  refine ⟨ret_int ?_, below_drewN ((Below.refl _ w).alloc (Nat.le_refl _) _) _⟩
  rw [u32_or8 x3 (x2 * 256) (by omega) (by omega) (by omega) (by omega) (by omega), u32_or16 _ (x1 * 65536) (by omega) (by omega) (by omega) (by omega) (by omega), u32_or24 _ (x0 * 16777216) (by omega) (by omega) (by omega) (by omega) (by omega)]

theorem below_two {w w1 : World} (hb : Below w.heap.size w w1) {o1 o2 : Obj} : Below w.heap.size w ((w1.alloc o1).alloc o2).drew :=
  ((hb.alloc hb.size o1).alloc (by have := hb.size; simp; omega) o2).drew

set_option maxRecDepth 100000 in
set_option maxHeartbeats 1000000 in
theorem len_ok (g o n c : Nat) (x0 x1 x2 x3 N : Int) (w : World) (hn : 4 ≤ n) (hg : g < w.heap.size)
    (c0 : w.cell? ⟨g, o, none⟩ = some (.int .u8 x0)) (c1 : w.cell? ⟨g, o + 1, none⟩ = some (.int .u8 x1)) (c2 : w.cell? ⟨g, o + 2, none⟩ = some (.int .u8 x2)) (c3 : w.cell? ⟨g, o + 3, none⟩ = some (.int .u8 x3))
    (h0 : 0 ≤ x0 ∧ x0 ≤ 255) (h1 : 0 ≤ x1 ∧ x1 ≤ 255) (h2 : 0 ≤ x2 ∧ x2 ≤ 255) (h3 : 0 ≤ x3 ∧ x3 ≤ 255) (hN : x3 + x2 * 256 + x1 * 65536 + x0 * 16777216 = N) (hsm : N ≤ 1048576) :
    Calls Ybaf.prog 5 #[.slice (some ⟨g, o, none⟩) n c] w fun e w' => e = .returned (.tuple #[.int .i64 N, .nilIface]) ∧ Below w.heap.size w w' := by
  have hc := be32 g o n c x0 x1 x2 x3 w hn hg c0 c1 c2 c3 h0 h1 h2 h3
  rw [hN] at hc
  have hN0 : 0 ≤ N := by omega
  clear hN h0 h1 h2 h3 c0 c1 c2 c3
  go_enter Ybaf.func5, Ybaf.ntmps5
  go_wp2_with fail
  refine hc.mono ?_
  rintro e w1 ⟨rfl, hb⟩
  clear hc
  go_wp2_with fail
  go_ret2
  exact ⟨rfl, hb⟩

set_option maxRecDepth 100000 in
set_option maxHeartbeats 1000000 in
theorem len_no (F : Interp) (g o n c : Nat) (x0 x1 x2 x3 N : Int) (w : World) (hF : F.answers w.tape) (hn : 4 ≤ n) (hg : g < w.heap.size)
    (c0 : w.cell? ⟨g, o, none⟩ = some (.int .u8 x0)) (c1 : w.cell? ⟨g, o + 1, none⟩ = some (.int .u8 x1)) (c2 : w.cell? ⟨g, o + 2, none⟩ = some (.int .u8 x2)) (c3 : w.cell? ⟨g, o + 3, none⟩ = some (.int .u8 x3))
    (h0 : 0 ≤ x0 ∧ x0 ≤ 255) (h1 : 0 ≤ x1 ∧ x1 ≤ 255) (h2 : 0 ≤ x2 ∧ x2 ≤ 255) (h3 : 0 ≤ x3 ∧ x3 ≤ 255) (hN : x3 + x2 * 256 + x1 * 65536 + x0 * 16777216 = N) (hbg : 1048576 < N) :
    Calls Ybaf.prog 5 #[.slice (some ⟨g, o, none⟩) n c] w fun e w' => ∃ a, e = .returned (.tuple #[.int .i64 0, .iface 41 (.pointer (some a))]) ∧ Below w.heap.size w w' := by
  have hc := be32 g o n c x0 x1 x2 x3 w hn hg c0 c1 c2 c3 h0 h1 h2 h3
  rw [hN] at hc
  have hN0 : 0 ≤ N ∧ N < 4294967296 := by omega
  clear hN h0 h1 h2 h3 c0 c1 c2 c3
  have HF : Hid (F.answers w.tape) := hF
  clear hF
  go_enter Ybaf.func5, Ybaf.ntmps5
  go_wp2_with fail
  refine hc.mono ?_
  rintro e w1 ⟨rfl, hb⟩
  clear hc
  have hF1 : F.answers w1.tape := by rw [hb.tape]; exact HF.out
  have hF' := hF1
  unfold Stop.Interp.answers at hF'
  clear hF1
  have hs := hb.size
  go_wp2
  go_ret2
  exact ⟨⟨w1.heap.size + 1, 0, none⟩, rfl, below_two hb⟩

theorem model_ok (N : Int) (w : World) (h0 : 0 ≤ N) (h : N ≤ 1048576) :
    Calls Ybaf.prog 6 #[.int .u32 N] w fun e w' => e = .returned (.tuple #[.int .i64 N, .bool true]) ∧ w' = w := by
  go_enter Ybaf.func6, Ybaf.ntmps6
  go_wp2
  go_ret2
  exact ⟨rfl, rfl⟩
theorem model_no (N : Int) (w : World) (h : 1048576 < N) :
    Calls Ybaf.prog 6 #[.int .u32 N] w fun e w' => e = .returned (.tuple #[.int .i64 0, .bool false]) ∧ w' = w := by
  go_enter Ybaf.func6, Ybaf.ntmps6
  go_wp2
  go_ret2
  exact ⟨rfl, rfl⟩
end Go.Proofs.YbulkdejeFmt
