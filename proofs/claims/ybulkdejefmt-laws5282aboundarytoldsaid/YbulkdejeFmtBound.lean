/-
  The walk of LawS5282ABoundary (4).
-/
import Derived.Test.YbulkdejeFmtLen
namespace Go.Proofs.YbulkdejeFmt
open Go.RowKit Go.Extern.Stop Go.Stop Go.Extern

set_option maxRecDepth 100000 in
set_option maxHeartbeats 1000000 in
theorem bd_walk (F : Interp) (d : Int) (w : World) (hF : F.answers w.tape) (h1 : -2147483648 ≤ d) (h2 : d ≤ 2147483647) :
    Calls Ybaf.prog 4 #[.int .i32 d] w fun e w' => e = .returned (.bool true) ∧ Below w.heap.size w w' := by
  have hsum : (1048576 + d) % 256 + (1048576 + d) % 4294967296 / 256 % 256 * 256 + (1048576 + d) % 4294967296 / 65536 % 256 * 65536 + (1048576 + d) % 4294967296 / 16777216 * 16777216 = (1048576 + d) % 4294967296 := by omega
  have hx0 : 0 ≤ (1048576 + d) % 4294967296 / 16777216 ∧ (1048576 + d) % 4294967296 / 16777216 ≤ 255 := by omega
  have hx1 : 0 ≤ (1048576 + d) % 4294967296 / 65536 % 256 ∧ (1048576 + d) % 4294967296 / 65536 % 256 ≤ 255 := by omega
  have hx2 : 0 ≤ (1048576 + d) % 4294967296 / 256 % 256 ∧ (1048576 + d) % 4294967296 / 256 % 256 ≤ 255 := by omega
  have hx3 : 0 ≤ (1048576 + d) % 256 ∧ (1048576 + d) % 256 ≤ 255 := by omega
  have hNb : 0 ≤ (1048576 + d) % 4294967296 ∧ (1048576 + d) % 4294967296 < 4294967296 := by omega
  have HS : Hid ((1048576 + d) % 256 + (1048576 + d) % 4294967296 / 256 % 256 * 256 + (1048576 + d) % 4294967296 / 65536 % 256 * 65536 + (1048576 + d) % 4294967296 / 16777216 * 16777216 = (1048576 + d) % 4294967296) := hsum
  clear hsum
  have HF : Hid (F.answers w.tape) := hF
  clear hF
  go_enter Ybaf.func4, Ybaf.ntmps4
  go_wp2_with fail
  generalize (1048576 + d) % 4294967296 / 16777216 = x0 at *
  generalize (1048576 + d) % 4294967296 / 65536 % 256 = x1 at *
  generalize (1048576 + d) % 4294967296 / 256 % 256 = x2 at *
  generalize (1048576 + d) % 256 = x3 at *
  generalize (1048576 + d) % 4294967296 = N at *
  have hb0 : Below w.heap.size w (w.alloc (.cells #[.int .u8 x0, .int .u8 x1, .int .u8 x2, .int .u8 x3] 22)) := (Below.refl _ _).alloc (Nat.le_refl _) _
  have hsz : w.heap.size < (w.alloc (.cells #[.int .u8 x0, .int .u8 x1, .int .u8 x2, .int .u8 x3] 22)).heap.size := by simp
  by_cases hsm : N ≤ 1048576
  · have hc := len_ok w.heap.size 0 4 4 x0 x1 x2 x3 N (w.alloc (.cells #[.int .u8 x0, .int .u8 x1, .int .u8 x2, .int .u8 x3] 22)) (Nat.le_refl _) hsz (by go_simp) (by go_simp) (by go_simp) (by go_simp) hx0 hx1 hx2 hx3 HS.out hsm
    refine hc.mono ?_
    rintro e w1 ⟨rfl, hb⟩
    have HB : Hid (Below w.heap.size w w1) := hb0.trans (hb.mono (Nat.le_of_lt hsz))
    clear hc hb hb0 hsz
    go_wp2
    go_ret
    exact ⟨rfl, HB.out⟩
  · have hc := len_no F w.heap.size 0 4 4 x0 x1 x2 x3 N (w.alloc (.cells #[.int .u8 x0, .int .u8 x1, .int .u8 x2, .int .u8 x3] 22)) HF.out (Nat.le_refl _) hsz (by go_simp) (by go_simp) (by go_simp) (by go_simp) hx0 hx1 hx2 hx3 HS.out (by omega)
    refine hc.mono ?_
    rintro e w1 ⟨a, rfl, hb⟩
    have HB : Hid (Below w.heap.size w w1) := hb0.trans (hb.mono (Nat.le_of_lt hsz))
    clear hc hb hb0 hsz
    go_wp2
    go_ret
    exact ⟨rfl, HB.out⟩
end Go.Proofs.YbulkdejeFmt
