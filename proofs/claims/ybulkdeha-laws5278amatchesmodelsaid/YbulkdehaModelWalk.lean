/-
  The walk of LawS5278AMatchesModel (3).
-/
import Derived.Test.YbulkdehaModel
import Derived.Deep.QuietTactic
import Derived.BigQuiet
namespace Go.Proofs.Ybulkdeha
open Go.RowKit
attribute [local go_sem] run_store_float

/-- math.Float64bits hands the bits over. -/
theorem fbits (x : Nat) (w : World) : (callFunc 11 #[.float .f64 x]).run Yba.prog w = .ok (.value (.int .u64 (x : Int))) w := by kernel_rfl

theorem lies_at {w : World} {a : Option Addr} {xs : List Smp} (h : Lies w a xs) (i : Nat) (hi : i < xs.length) :
    ∃ b o, a = some ⟨b, o, none⟩ ∧ b < w.heap.size ∧ w.cell? ⟨b, o + i * 2, none⟩ = some (.int .i64 (xs.getD i (0, 0)).1) ∧ w.cell? ⟨b, o + i * 2 + 1, none⟩ = some (.float .f64 (xs.getD i (0, 0)).2) := by
  rcases h with rfl | ⟨b, o, e, hb, hc⟩
  · simp at hi
  · have h2 : xs.getD i (0, 0) = xs[i] := by simp [List.getD, hi]
    rw [h2]
    exact ⟨b, o, e, hb, (hc i hi).1, (hc i hi).2⟩

/-- The model's 'prev' lies in the block behind w5's and holds P. -/
structure Pv (w5 w6 : World) (P : Smp) : Prop where
  bel : Below w5.heap.size w5 w6
  gs : w5.heap.size < w6.heap.size
  fr : ∀ i, w6.frozen? ⟨w5.heap.size, i, none⟩ = false
  c0 : w6.cell? ⟨w5.heap.size, 0, none⟩ = some (.int .i64 P.1)
  c1 : w6.cell? ⟨w5.heap.size, 1, none⟩ = some (.float .f64 P.2)
theorem Pv.start (w5 : World) : Pv w5 (w5.alloc (.cells #[.int .i64 0, .float .f64 0] 28)) (0, 0) :=
  ⟨(Below.refl _ _).alloc (Nat.le_refl _) _, by simp, by intro i; go_simp, by go_simp, by go_simp⟩
theorem Pv.below {w5 w6 w7 : World} {P : Smp} (h : Pv w5 w6 P) (hb : Below w6.heap.size w6 w7) : Pv w5 w7 P :=
  ⟨h.bel.trans (hb.mono (Nat.le_of_lt h.gs)), Nat.lt_of_lt_of_le h.gs hb.size, fun i => (hb.frozen (p := ⟨w5.heap.size, i, none⟩) h.gs).trans (h.fr i),
    (hb.cell (p := ⟨w5.heap.size, 0, none⟩) h.gs).trans h.c0, (hb.cell (p := ⟨w5.heap.size, 1, none⟩) h.gs).trans h.c1⟩
theorem Pv.alloc {w5 w6 : World} {P : Smp} (h : Pv w5 w6 P) (o : Obj) : Pv w5 (w6.alloc o) P := h.below ((Below.refl _ _).alloc (Nat.le_refl _) o)
theorem Pv.store {w5 w6 : World} {P : Smp} (h : Pv w5 w6 P) (S : Smp) : Pv w5 ((w6.setCell ⟨w5.heap.size, 0, none⟩ (.int .i64 S.1)).setCell ⟨w5.heap.size, 1, none⟩ (.float .f64 S.2)) S := by
  have c0 := h.c0
  have c1 := h.c1
  have fr := h.fr
  have gs := h.gs
  refine ⟨?_, by go_simp, by intro i; go_simp, by go_simp, by go_simp⟩
  have b1 : Below w5.heap.size w5 (w6.setCell ⟨w5.heap.size, 0, none⟩ (.int .i64 S.1)) := h.bel.setCell (p := ⟨w5.heap.size, 0, none⟩) (Nat.le_refl _) _
  exact b1.setCell (p := ⟨w5.heap.size, 1, none⟩) (Nat.le_refl _) _

/-- RateMax's two ends in one. -/
theorem rm_cases {xs : List Smp} {at_ win : Int} {e : Ending} (h : RmEnd xs at_ win e) :
    ∃ v ok, e = .returned (.tuple #[.float .f64 v, .bool ok]) ∧ Hid (((wbounds xs at_ win).2 < (wbounds xs at_ win).1 + 2 ∧ v = 0 ∧ ok = false) ∨ ((wbounds xs at_ win).1 + 2 ≤ (wbounds xs at_ win).2 ∧ ok = true ∧ Best (ros xs ((wbounds xs at_ win).1 + 1) (wbounds xs at_ win).2) v)) := by
  rcases h with ⟨h1, rfl⟩ | ⟨h1, v, rfl, h2⟩
  · exact ⟨0, false, rfl, Or.inl ⟨h1, rfl, rfl⟩⟩
  · exact ⟨v, true, rfl, Or.inr ⟨h1, rfl, h2⟩⟩

theorem fill_end {w wr : World} {B n k : Nat} {L : List Value} {t0 : Int} {zs : List Int} {fs : List Nat} (ho : wr.ownsRow B 28 2 (.slice (some ⟨B, 0, none⟩) n n) n L) (hf : Filled t0 zs fs k L) (hb : Below B w wr) (hk : k < n)
    (t : Int) (f : Nat) (ht : t = tms t0 zs k) (hff : f = fs.getD k 0) :
    ∃ L', ((wr.setCell ⟨B, k * 2, none⟩ (.int .i64 t)).setCell ⟨B, k * 2 + 1, none⟩ (.float .f64 f)).ownsRow B 28 2 (.slice (some ⟨B, 0, none⟩) n n) n L' ∧ Filled t0 zs fs (k + 1) L' ∧
      Below B w ((wr.setCell ⟨B, k * 2, none⟩ (.int .i64 t)).setCell ⟨B, k * 2 + 1, none⟩ (.float .f64 f)) := by
  subst ht hff
  have h1 := (ho.stored (k * 2) (.int .i64 (tms t0 zs k))).1
  have h2 := (h1.stored (k * 2 + 1) (.float .f64 (fs.getD k 0))).1
  refine ⟨_, h2, hf.next ho.1 hk, ?_⟩
  have b1 : Below B w (wr.setCell ⟨B, k * 2, none⟩ (.int .i64 (tms t0 zs k))) := hb.setCell (p := ⟨B, k * 2, none⟩) (Nat.le_refl B) _
  exact b1.setCell (p := ⟨B, k * 2 + 1, none⟩) (Nat.le_refl B) _

set_option maxRecDepth 100000 in
set_option maxHeartbeats 4000000 in
theorem mm_walk (t0 : Int) (a1 : Option Addr) (n1 c1 : Nat) (zs : List Int) (a2 : Option Addr) (n2 c2 : Nat) (fs : List Nat) (at_ wn : Int) (ms : Bool) (w : World) (hn1 : n1 ≤ 1024) (hn2 : n2 ≤ 1024)
    (hc1 : ∀ k, k < n1 → ∃ b off, a1 = some ⟨b, off, none⟩ ∧ b < w.heap.size ∧ w.cell? ⟨b, off + k, none⟩ = some (.int .u16 (zs.getD k 0)) ∧ 0 ≤ zs.getD k 0 ∧ zs.getD k 0 ≤ 65535)
    (hc2 : ∀ k, k < n2 → ∃ b off, a2 = some ⟨b, off, none⟩ ∧ b < w.heap.size ∧ w.cell? ⟨b, off + k, none⟩ = some (.float .f64 (fs.getD k 0)))
    (ht1 : -9223372036854775808 ≤ t0) (ht2 : t0 ≤ 9223372036854775807) (ha1 : -9223372036854775808 ≤ at_) (ha2 : at_ ≤ 9223372036854775807) (hw1 : -9223372036854775808 ≤ wn) (hw2 : wn ≤ 9223372036854775807) :
    Calls Yba.prog 3 #[.int .i64 t0, .slice a1 n1 c1, .slice a2 n2 c2, .int .i64 at_, .int .i64 wn, .bool ms] w fun e w' => e = .returned (.bool true) ∧ Below w.heap.size w w' := by
  have HC1 : Hid (∀ k, k < n1 → ∃ b off, a1 = some ⟨b, off, none⟩ ∧ b < w.heap.size ∧ w.cell? ⟨b, off + k, none⟩ = some (.int .u16 (zs.getD k 0)) ∧ 0 ≤ zs.getD k 0 ∧ zs.getD k 0 ≤ 65535) := hc1
  have HC2 : Hid (∀ k, k < n2 → ∃ b off, a2 = some ⟨b, off, none⟩ ∧ b < w.heap.size ∧ w.cell? ⟨b, off + k, none⟩ = some (.float .f64 (fs.getD k 0))) := hc2
  clear hc1 hc2
  obtain ⟨n, hnm⟩ : ∃ n, n = min n1 n2 := ⟨_, rfl⟩
  have hnb : n ≤ n1 ∧ n ≤ n2 ∧ n ≤ 1024 := by omega
  have HZ : Hid (∀ i, i < n → 0 ≤ zs.getD i 0) := fun i hi => by obtain ⟨_, _, _, _, _, h, _⟩ := HC1.out i (by omega); exact h
  have hmin : (n1 < n2 ∧ n = n1) ∨ (¬ n1 < n2 ∧ n = n2) := by omega
  clear hnm
  obtain ⟨i0, hin, hz0, hz1, hz2⟩ := info_parts Yba.info28
  go_enter Yba.func3, Yba.ntmps3
  go_upto_region 3 with fail
  go_cut [13] (fun s13 w2 => s13 = .int .i64 (n : Int) ∧ w2 = w)
  case first =>
    go_wp2_with fail
    all_goals
      go_meet
      case rel => exact ⟨by go_num, rfl⟩
  case rest =>
    obtain ⟨rfl, hw⟩ := hcut
    obtain rfl := hw.symm
    clear hmin hw
    go_wp2_with (at_make; refine wpList_make_full _ rfl _ _ 24 rfl w.heap.size 28 i0 _ 2 Yba.underlying24 hin hz0 hz1 _ _ _ _ n rfl rfl rfl rfl (by rw [hz2]; omega) (by unfold maxLen; omega) (Nat.le_refl _) ?_; intro w1 hown hgrow)
    have hb1 : Below w.heap.size w w1 := (Below.refl _ _).grown hgrow (Nat.le_refl _) (by intro k hk; cases hk)
    clear hgrow
    go_loopg [15, 16] n (fun q vt vi wr => ∃ (k : Nat) (L : List Value), k ≤ n ∧ q = n - k ∧ vi = .int .i64 (k : Int) ∧ vt = .int .i64 (tms t0 zs (k - 1)) ∧ wr.ownsRow w.heap.size 28 2 (.slice (some ⟨w.heap.size, 0, none⟩) n n) n L ∧ Filled t0 zs fs k L ∧ Below w.heap.size w wr)
    case atStart => exact ⟨0, _, Nat.zero_le _, rfl, rfl, rfl, hown, fun i hi => by omega, hb1⟩
    case round =>
      clear hown hb1
      obtain ⟨k, L, hk, rfl, rfl, rfl, hown, hfil, hb⟩ := hrel
      by_cases hlt : k < n
      · obtain ⟨b2, o2, ha, hbl2, hd2⟩ := HC2.out k (by omega)
        subst ha
        have e2 := (hb.cell (p := ⟨b2, o2 + k, none⟩) hbl2).trans hd2
        clear hd2
        have hLl := hown.1
        have k1 : wr.cell? ⟨w.heap.size, k * 2, none⟩ = some (L[k * 2]'(by omega)) := by rw [hown.cellAt (k * 2) (by omega), List.getElem?_eq_getElem]
        have k2 : wr.cell? ⟨w.heap.size, k * 2 + 1, none⟩ = some (L[k * 2 + 1]'(by omega)) := by rw [hown.cellAt (k * 2 + 1) (by omega), List.getElem?_eq_getElem]
        have f1 := hown.frozenAt (k * 2)
        have f2 := hown.frozenAt (k * 2 + 1)
        have hbne : b2 ≠ w.heap.size := by omega
        have HO : Hid (wr.ownsRow w.heap.size 28 2 (.slice (some ⟨w.heap.size, 0, none⟩) n n) n L) := hown
        have HF : Hid (Filled t0 zs fs k L) := hfil
        clear hown hfil
        generalize L[k * 2]'(by omega) = x1 at *
        generalize L[k * 2 + 1]'(by omega) = x2 at *
        have hnk : k < n2 := by omega
        by_cases hk0 : k = 0
        · have HK : Hid (k = 0) := hk0
          have hk0' : ¬ (0 : Int) < (k : Int) := by omega
          clear hk0
          go_wp2_with fail
          obtain ⟨L', q1, q2, q3⟩ := fill_end HO.out HF.out hb hlt (tms t0 zs (k - 1)) (fs.getD k 0) (by rw [HK.out]) rfl
          go_roundg (n - (k + 1))
          case measure => omega
          case rel => exact ⟨k + 1, L', by omega, rfl, by go_num, by rw [HK.out], q1, q2, q3⟩
        · have hk0' : (0 : Int) < (k : Int) := by omega
          obtain ⟨b1, o1, ha, hbl1, hd1, hlo, hhi⟩ := HC1.out k (by omega)
          subst ha
          have e1 := (hb.cell (p := ⟨b1, o1 + k, none⟩) hbl1).trans hd1
          clear hd1
          have hnk1 : k < n1 := by omega
          have htb := tms_bounds t0 zs ht1 ht2 n HZ.out (k - 1) (by omega)
          have HT : Hid (tms t0 zs k = if 9223372036854775807 - zs.getD k 0 < tms t0 zs (k - 1) then 9223372036854775807 else tms t0 zs (k - 1) + zs.getD k 0) := by
            obtain ⟨j, rfl⟩ : ∃ j, k = j + 1 := ⟨k - 1, by omega⟩
            show _ = _
            rw [tms, Nat.add_sub_cancel]
          generalize zs.getD k 0 = d at *
          generalize tms t0 zs (k - 1) = t at *
          by_cases hov : 9223372036854775807 - d < t
          · have HT2 : Hid (tms t0 zs k = 9223372036854775807) := by show _ = _; rw [HT.out, if_pos hov]
            go_wp2_with fail
            obtain ⟨L', q1, q2, q3⟩ := fill_end HO.out HF.out hb hlt 9223372036854775807 (fs.getD k 0) HT2.out.symm rfl
            go_roundg (n - (k + 1))
            case measure => omega
            case rel => exact ⟨k + 1, L', by omega, rfl, by go_num, by rw [Nat.add_sub_cancel, HT2.out], q1, q2, q3⟩
          · have HT2 : Hid (tms t0 zs k = t + d) := by show _ = _; rw [HT.out, if_neg hov]
            go_wp2_with fail
            obtain ⟨L', q1, q2, q3⟩ := fill_end HO.out HF.out hb hlt (t + d) (fs.getD k 0) HT2.out.symm rfl
            go_roundg (n - (k + 1))
            case measure => omega
            case rel => exact ⟨k + 1, L', by omega, rfl, by go_num, by rw [Nat.add_sub_cancel, HT2.out], q1, q2, q3⟩
      · obtain rfl : k = n := by omega
        have hlies := filled_lies hown hfil
        have HL : Hid (Lies wr (some ⟨w.heap.size, 0, none⟩) (mk t0 zs fs k)) := hlies
        clear hown hfil hlies HC1 HC2
        go_upto_if 75 with fail
        go_cut [18] (fun s18 w2 => w2 = wr ∧ ∃ win, s18 = .int .i64 win ∧ -9223372036854775808 ≤ win ∧ win ≤ 9223372036854775807)
        case first =>
          go_wp2_with fail
          all_goals
            go_meet
            case rel => first | exact ⟨rfl, _, rfl, hw1, hw2⟩ | exact ⟨rfl, _, rfl, wrap64_bounds _⟩
        case rest =>
          obtain ⟨hw, win, rfl, hwin1, hwin2⟩ := hcut
          obtain rfl := hw.symm
          clear hw
          have HX1 : Hid ((mk t0 zs fs k).length = k) := mk_length t0 zs fs k
          have HX2 : Hid (Sorted (mk t0 zs fs k)) := mk_sorted t0 zs fs ht1 ht2 k HZ.out
          have HX3 : Hid (∀ i, i < (mk t0 zs fs k).length → -9223372036854775808 ≤ tm (mk t0 zs fs k) i) := mk_tm t0 zs fs ht1 ht2 k HZ.out
          generalize mk t0 zs fs k = X at *
          generalize tms t0 zs (k - 1) = tl at *
          have hcl := clone_any (some ⟨w.heap.size, 0, none⟩) k k X wr HL.out HX1.out (by omega) (fun h => by cases h)
          go_wp2_with fail
          refine hcl.mono ?_
          rintro e w3 ⟨a', c', rfl, hl3, hb3⟩
          clear hcl
          have hrm := ratemax_any (some ⟨w.heap.size, 0, none⟩) k k X at_ win w3 (HL.out.below hb3) HX1.out (by omega) ha1 ha2 hwin1 hwin2
          have HLb3 : Hid (Lies w3 (some ⟨w.heap.size, 0, none⟩) X ∧ Lies w3 a' X) := ⟨HL.out.below hb3, hl3⟩
          have HB3 : Hid (Below w.heap.size w w3) := hb.trans (hb3.mono hb.size)
          clear hb3 hl3 HL hb
          go_wp2_with fail
          refine hrm.mono ?_
          rintro e w4 ⟨hend, hb4⟩
          obtain ⟨v, ok, rfl, HE⟩ := rm_cases hend
          have HL4 : Hid (Lies w4 (some ⟨w.heap.size, 0, none⟩) X ∧ Lies w4 a' X) := ⟨HLb3.out.1.below hb4, HLb3.out.2.below hb4⟩
          have HB4 : Hid (Below w.heap.size w w4) := HB3.out.trans (hb4.mono HB3.out.size)
          clear hb4 hrm hend HLb3 HB3
          go_wp2_with fail
          go_loopg [22] k (fun q vi wr2 => ∃ (j : Nat), j ≤ k ∧ q = k - j ∧ vi = .int .i64 (j : Int) ∧ Below w4.heap.size w4 wr2)
          case atStart => exact ⟨0, Nat.zero_le _, rfl, rfl, Below.refl _ _⟩
          case round =>
            obtain ⟨j, hj, rfl, rfl, hb5⟩ := hrel
            by_cases hlt : j < k
            · obtain ⟨b1, o1, hq1, hbl1, g1, g2⟩ := lies_at HL4.out.1 j (by have := HX1.out; omega)
              obtain ⟨b2, o2, hq2, hbl2, g3, g4⟩ := lies_at HL4.out.2 j (by have := HX1.out; omega)
              cases hq1
              subst hq2
              have d1 := (hb5.cell (p := ⟨w.heap.size, 0 + j * 2, none⟩) hbl1).trans g1
              have d2 := (hb5.cell (p := ⟨w.heap.size, 0 + j * 2 + 1, none⟩) hbl1).trans g2
              have d3 := (hb5.cell (p := ⟨b2, o2 + j * 2, none⟩) hbl2).trans g3
              have d4 := (hb5.cell (p := ⟨b2, o2 + j * 2 + 1, none⟩) hbl2).trans g4
              rw [Nat.zero_add] at d1 d2
              clear g1 g2 g3 g4
              generalize (X.getD j (0, 0)).1 = T at *
              generalize (X.getD j (0, 0)).2 = V at *
              have hbits := fbits
              have hTT : (T != T) = false := by simp
              have hVV : ((V : Int) != (V : Int)) = false := by simp
              have i1 : (j : Int) < (k : Int) := by omega
              go_wp2_with fail
              go_quiet (fail)
              go_wp2_with fail
              go_roundg (k - (j + 1))
              case measure => omega
              case rel => exact ⟨j + 1, by omega, rfl, by go_num, below_drewN hb5 _⟩
            · rename World => w5
              have HL5 : Hid (Lies w5 (some ⟨w.heap.size, 0, none⟩) X) := HL4.out.1.below hb5
              have HB5 : Hid (Below w.heap.size w w5) := HB4.out.trans (hb5.mono HB4.out.size)
              have hle := wb_le X at_ win
              have HW : Hid (∀ q, q < X.length → ainB (tm X q) at_ win = decide ((wbounds X at_ win).1 ≤ q ∧ q < (wbounds X at_ win).2)) := fun q hq => ain_bounds HX2.out HX3.out at_ win ha2 hwin2 q hq
              clear hb5 HL4 HB4 HX2
              generalize hwb : wbounds X at_ win = wb at *
              obtain ⟨f, l⟩ := wb
              clear hwb
              have hfl : f ≤ l ∧ l ≤ X.length := hle
              clear hle
              go_wp2_with fail
              go_loopg [23, 25, 26, 27] k (fun q vc vb vn vi w6 => ∃ (j best : Nat) (nan : Bool) (P : Smp), j ≤ k ∧ q = k - j ∧ vi = .int .i64 (j : Int) ∧ vc = .int .i64 ((min j l - f : Nat) : Int) ∧ vb = .float .f64 best ∧ vn = .bool nan ∧
                Mod (ros X (f + 1) (min j l)) best nan ∧ Pv w5 w6 P ∧ (f < min j l → P = X.getD (min j l - 1) (0, 0)))
              case atStart =>
                refine ⟨0, 0, false, (0, 0), Nat.zero_le _, rfl, rfl, by simp, rfl, rfl, ?_, Pv.start w5, fun h => by omega⟩
                rw [Nat.zero_min, show ros X (f + 1) 0 = [] from by simp [ros]]
                exact Mod.start
              case round =>
                obtain ⟨j, best, nan, P, hj, rfl, rfl, rfl, rfl, rfl, hmod, hpv, hP⟩ := hrel
                have HM : Hid (Mod (ros X (f + 1) (min j l)) best nan) := hmod
                have HP : Hid (f < min j l → P = X.getD (min j l - 1) (0, 0)) := hP
                clear hmod hP
                by_cases hlt : j < k
                · have hjX : j < X.length := by have := HX1.out; omega
                  obtain ⟨b1, o1, hq1, hbl1, g1, g2⟩ := lies_at HL5.out j hjX
                  cases hq1
                  have d1 := (hpv.bel.cell (p := ⟨w.heap.size, 0 + j * 2, none⟩) hbl1).trans g1
                  have d2 := (hpv.bel.cell (p := ⟨w.heap.size, 0 + j * 2 + 1, none⟩) hbl1).trans g2
                  rw [Nat.zero_add] at d1 d2
                  clear g1 g2
                  have hain := HW.out j hjX
                  have htm := HX3.out j hjX
                  have hcall := fun W => ain_any (tm X j) at_ win W htm ha2 hwin1 hwin2
                  rw [hain] at hcall
                  unfold tm at hcall
                  clear hain htm
                  obtain ⟨S, hS⟩ : ∃ S, S = X.getD j (0, 0) := ⟨_, rfl⟩
                  rw [← hS] at d1 d2
                  rw [← hS] at hcall
                  have HS : Hid (S = X.getD j (0, 0)) := hS
                  clear hS
                  have HCALL : Hid (∀ W, Calls Yba.prog 12 #[.int .i64 S.1, .int .i64 at_, .int .i64 win] W fun e w' => e = .returned (.bool (decide (f ≤ j ∧ j < l))) ∧ w' = W) := hcall
                  clear hcall
                  have HPV : Hid (Pv w5 wr P) := hpv
                  have hp0 := hpv.c0
                  have hp1 := hpv.c1
                  have hpf := hpv.fr
                  have hps := hpv.gs
                  clear hpv
                  by_cases hin : f ≤ j ∧ j < l
                  · have hdec : decide (f ≤ j ∧ j < l) = true := decide_eq_true hin
                    have EC : Hid (min j l = j ∧ min (j + 1) l = j + 1) := ⟨by omega, by omega⟩
                    have ER : Hid (f < j → ros X (f + 1) (j + 1) = ros X (f + 1) j ++ [rt (X.getD (j - 1) (0, 0)) S]) := by
                      intro h; rw [ros_succ X (f + 1) j (by omega), HS.out]
                    have EP : Hid (f < min (j + 1) l → S = X.getD (min (j + 1) l - 1) (0, 0)) := by
                      intro _; rw [EC.out.2, Nat.add_sub_cancel]; exact HS.out
                    rw [EC.out.1] at HM HP
                    by_cases hjf : j = f
                    · have hcn : min j l - f = 0 := by omega
                      have ER0 : Hid (ros X (f + 1) (min (j + 1) l) = ros X (f + 1) j) := by
                        show _ = _
                        rw [EC.out.2]; unfold ros; rw [show j + 1 - (f + 1) = 0 from by omega, show j - (f + 1) = 0 from by omega]
                      have EN : Hid (min (j + 1) l - f = 1) := by show _ = _; omega
                      have HIN : Hid (f ≤ j ∧ j < l) := hin
                      clear hin hjf
                      go_wp2_with (go_at_call 12; refine (HCALL.out _).mono ?_; rintro e w' ⟨rfl, hw⟩; obtain rfl := hw.symm; clear hw; rw [hdec])
                      go_roundg (k - (j + 1))
                      case measure => omega
                      case rel => exact ⟨j + 1, best, nan, S, by omega, rfl, by go_num, by rw [EN.out]; rfl, rfl, rfl, by rw [ER0.out]; exact HM.out, (HPV.out.store S).alloc _, EP.out⟩
                    · have hfj : f < j := by omega
                      have EPP : Hid (P = X.getD (j - 1) (0, 0)) := HP.out hfj
                      have ER1 : Hid (ros X (f + 1) (min (j + 1) l) = ros X (f + 1) j ++ [rt P S]) := by
                        show _ = _
                        rw [EC.out.2, ER.out hfj, EPP.out]
                      have ENE : Hid (f + 1 < j → ros X (f + 1) j ≠ []) := by
                        intro h e
                        have := congrArg List.length e
                        simp [ros] at this
                        omega
                      have EEM : Hid (j = f + 1 → ros X (f + 1) j = []) := by
                        intro h; unfold ros; rw [show j - (f + 1) = 0 from by omega]; rfl
                      obtain ⟨cn, hcn⟩ : ∃ cn, min j l - f = cn := ⟨_, rfl⟩
                      have hc1 : f + cn ≤ j := by omega
                      have hc2 : j ≤ f + cn := by omega
                      have hc3 : cn ≤ 1024 := by omega
                      have hc4 : 0 < cn := by omega
                      have EN : Hid (min (j + 1) l - f = cn + 1) := by show _ = _; omega
                      have HIN : Hid (f ≤ j ∧ j < l) := hin
                      clear hin hjf
                      go_wp2_with (go_at_call 12; refine (HCALL.out _).mono ?_; rintro e w' ⟨rfl, hw⟩; obtain rfl := hw.symm; clear hw; rw [hdec])
                      refine (arate_any P S _).mono ?_
                      rintro e w7 ⟨r, rfl, hr, hb7⟩
                      have hsz7 : (wr.alloc (.cells #[.int .i64 S.1, .float .f64 S.2] 28)).heap.size = wr.heap.size + 1 := by simp
                      have s0 : w7.cell? ⟨wr.heap.size, 0, none⟩ = some (.int .i64 S.1) := (hb7.cell (p := ⟨wr.heap.size, 0, none⟩) (by rw [hsz7]; exact Nat.lt_succ_self _)).trans (by go_simp)
                      have s1 : w7.cell? ⟨wr.heap.size, 1, none⟩ = some (.float .f64 S.2) := (hb7.cell (p := ⟨wr.heap.size, 1, none⟩) (by rw [hsz7]; exact Nat.lt_succ_self _)).trans (by go_simp)
                      have hpv7 : Pv w5 w7 P := (HPV.out.alloc _).below hb7
                      have hp0' := hpv7.c0
                      have hp1' := hpv7.c1
                      have hpf' := hpv7.fr
                      have HPV7 : Hid (Pv w5 w7 P) := hpv7
                      have HR : Hid (RtOk (rt P S) r) := hr
                      have hne7 : wr.heap.size ≠ w5.heap.size := by omega
                      clear hb7 hpv7 hr hp0 hp1 hpf hsz7
                      cases hnr : nanB r
                      · by_cases hc5 : cn = 1
                        · have hb1 : ((cn : Int) == 1) = true := by simp [hc5]
                          have EJ : Hid (j = f + 1) := by show _ = _; omega
                          clear hc5
                          go_wp2_with (go_at_call 14; refine (isnan_any _ _).mono ?_; rintro e w' ⟨rfl, hw⟩; obtain rfl := hw.symm; clear hw; rw [hnr])
                          go_roundg (k - (j + 1))
                          case measure => omega
                          case rel => exact ⟨j + 1, r, nan, S, by omega, rfl, by go_num, by rw [EN.out]; go_num, rfl, rfl, by rw [ER1.out]; exact HM.out.take HR.out hnr (Or.inl (EEM.out EJ.out)), HPV7.out.store S, EP.out⟩
                        · have hb1 : ((cn : Int) == 1) = false := by simp; omega
                          have ENJ : Hid (ros X (f + 1) j ≠ []) := ENE.out (by omega)
                          cases hgt : (FloatKind.f64.format.order r best == some .gt)
                          · go_wp2_with (go_at_call 14; refine (isnan_any _ _).mono ?_; rintro e w' ⟨rfl, hw⟩; obtain rfl := hw.symm; clear hw; rw [hnr])
                            go_roundg (k - (j + 1))
                            case measure => omega
                            case rel => exact ⟨j + 1, best, nan, S, by omega, rfl, by go_num, by rw [EN.out]; go_num, rfl, rfl, by rw [ER1.out]; exact HM.out.leave HR.out hnr ENJ.out hgt, HPV7.out.store S, EP.out⟩
                          · go_wp2_with (go_at_call 14; refine (isnan_any _ _).mono ?_; rintro e w' ⟨rfl, hw⟩; obtain rfl := hw.symm; clear hw; rw [hnr])
                            go_roundg (k - (j + 1))
                            case measure => omega
                            case rel => exact ⟨j + 1, r, nan, S, by omega, rfl, by go_num, by rw [EN.out]; go_num, rfl, rfl, by rw [ER1.out]; exact HM.out.take HR.out hnr (Or.inr hgt), HPV7.out.store S, EP.out⟩
                      · go_wp2_with (go_at_call 14; refine (isnan_any _ _).mono ?_; rintro e w' ⟨rfl, hw⟩; obtain rfl := hw.symm; clear hw; rw [hnr])
                        go_roundg (k - (j + 1))
                        case measure => omega
                        case rel => exact ⟨j + 1, best, true, S, by omega, rfl, by go_num, by rw [EN.out]; go_num, rfl, rfl, by rw [ER1.out]; exact HM.out.nan HR.out hnr, HPV7.out.store S, EP.out⟩
                  · have hdec : decide (f ≤ j ∧ j < l) = false := decide_eq_false hin
                    have e1 : min (j + 1) l - f = min j l - f := by omega
                    have E2 : Hid (ros X (f + 1) (min (j + 1) l) = ros X (f + 1) (min j l)) := by
                      show _ = _
                      rcases (show l ≤ j ∨ j < f from by omega) with h | h
                      · rw [Nat.min_eq_right (by omega), Nat.min_eq_right (by omega)]
                      · unfold ros; rw [show min (j + 1) l - (f + 1) = 0 from by omega, show min j l - (f + 1) = 0 from by omega]
                    have E1 : Hid (min (j + 1) l - f = min j l - f) := e1
                    have E3 : Hid (f < min (j + 1) l → min (j + 1) l - 1 = min j l - 1 ∧ f < min j l) := by intro h; omega
                    clear e1
                    go_wp2_with (go_at_call 12; refine (HCALL.out _).mono ?_; rintro e w' ⟨rfl, hw⟩; obtain rfl := hw.symm; clear hw; rw [hdec])
                    go_roundg (k - (j + 1))
                    case measure => omega
                    case rel =>
                      refine ⟨j + 1, best, nan, P, by omega, rfl, by go_num, by rw [E1.out], rfl, rfl, by rw [E2.out]; exact HM.out, HPV.out.alloc _, fun h => by rw [(E3.out h).1]; exact HP.out (E3.out h).2⟩
                · obtain rfl : j = k := by omega
                  have hml : min j l = l := by have := HX1.out; omega
                  rw [hml] at HM
                  have HBF : Hid (Below w.heap.size w wr) := HB5.out.trans (hpv.bel.mono HB5.out.size)
                  clear hpv HP
                  rcases HE.out with ⟨hfew, rfl, rfl⟩ | ⟨hmany, rfl, hbest⟩
                  · have hfew' : l < f + 2 := hfew
                    clear hfew
                    have hz := zero_eq
                    go_wp2_with fail
                    go_ret
                    exact ⟨rfl, HBF.out⟩
                  · have hmany' : f + 2 ≤ l := hmany
                    have HBB : Hid (Best (ros X (f + 1) l) v) := hbest
                    have HNE : Hid (ros X (f + 1) l ≠ []) := by
                      intro e
                      have := congrArg List.length e
                      simp [ros] at this
                      omega
                    clear hmany hbest
                    cases nan
                    · have heq := mod_eq HM.out HBB.out HNE.out
                      go_wp2_with fail
                      go_ret
                      exact ⟨rfl, HBF.out⟩
                    · have hnv := mod_nan HM.out HBB.out
                      go_wp2_with (go_at_call 14; refine (isnan_any _ _).mono ?_; rintro e w' ⟨rfl, hw⟩; obtain rfl := hw.symm; clear hw; rw [hnv])
                      go_ret
                      exact ⟨rfl, HBF.out⟩
end Go.Proofs.Ybulkdeha
