/-
  The walk of (*pairRateWindow).slide (22) on a new window that wants the largest rate.
-/
import Derived.Test.YbulkdehaLead
import Derived.Test.YbulkdehaSearch
import Derived.Deep.LoopGhost
import Derived.Deep.DeepCutAuto
import Derived.Deep.RegionWith
namespace Go.Proofs.Ybulkdeha
open Go.RowKit

theorem Yba.info60 : (Yba.prog.info? 60).map (fun i => (i.zero, i.size, i.bytes)) = some (some (.agg #[.int .i64 0, .float .f64 0]), 2, 16) := by kernel_rfl


/-- the rates of the pairs into lo .. i-1 -/
def ros (xs : List Smp) (lo i : Nat) : List (Option Nat) := (List.range (i - lo)).map fun k => rt (xs.getD (lo + k - 1) (0, 0)) (xs.getD (lo + k) (0, 0))
theorem ros_self (xs : List Smp) (lo : Nat) : ros xs lo lo = [] := by simp [ros]
theorem ros_succ (xs : List Smp) (lo i : Nat) (h : lo ≤ i) : ros xs lo (i + 1) = ros xs lo i ++ [rt (xs.getD (i - 1) (0, 0)) (xs.getD i (0, 0))] := by
  unfold ros
  rw [show i + 1 - lo = (i - lo) + 1 from by omega, List.range_succ, List.map_append, List.map_cons, List.map_nil, show lo + (i - lo) = i from by omega]

/-- The window's struct lies in block g; its leaders are v, the call's own. -/
structure St (w wr : World) (g lo : Nat) (v : Value) (ld : List Ldr) : Prop where
  c0 : wr.cell? ⟨g, 0, none⟩ = some (.bool true)
  c1 : wr.cell? ⟨g, 1, none⟩ = some (.int .i64 (lo : Int))
  c2 : wr.cell? ⟨g, 2, none⟩ = some (.int .i64 (lo : Int))
  c3 : wr.cell? ⟨g, 3, none⟩ = some v
  fr : ∀ j, wr.frozen? ⟨g, j, none⟩ = false
  own : wr.ownsRow (g + 1) 60 2 v ld.length (ldc ld)
  bel : Below g w wr
  gs : g < wr.heap.size

theorem ownsRow_below {w w' : World} {B e size n : Nat} {v : Value} {xs : List Value} (h : w.ownsRow B e size v n xs) (hb : Below w.heap.size w w') : w'.ownsRow B e size v n xs := by
  obtain ⟨h1, h2 | ⟨g, cap, cur, e1, h3, h4, h5⟩⟩ := h
  · exact ⟨h1, Or.inl h2⟩
  · have hg : g < w.heap.size := by
      rcases Nat.lt_or_ge g w.heap.size with h | h
      · exact h
      · rw [Array.getElem?_eq_none h] at h4; cases h4
    exact ⟨h1, Or.inr ⟨g, cap, cur, e1, h3, (hb.block g hg).trans h4, h5⟩⟩

theorem St.below {w wr wc : World} {g lo : Nat} {v : Value} {ld : List Ldr} (h : St w wr g lo v ld) (hb : Below wr.heap.size wr wc) : St w wc g lo v ld :=
  ⟨(hb.cell (p := ⟨g, 0, none⟩) h.gs).trans h.c0, (hb.cell (p := ⟨g, 1, none⟩) h.gs).trans h.c1, (hb.cell (p := ⟨g, 2, none⟩) h.gs).trans h.c2, (hb.cell (p := ⟨g, 3, none⟩) h.gs).trans h.c3,
    fun j => (hb.frozen (p := ⟨g, j, none⟩) h.gs).trans (h.fr j), ownsRow_below h.own hb, h.bel.trans (hb.mono (Nat.le_of_lt h.gs)), Nat.lt_of_lt_of_le h.gs hb.size⟩

set_option maxHeartbeats 400000 in
theorem st_start (w : World) (g lo : Nat) (hgw : g < w.heap.size) (hc0 : w.cell? ⟨g, 0, none⟩ = some (.bool true)) (hc1 : w.cell? ⟨g, 1, none⟩ = some (.int .i64 0)) (hc2 : w.cell? ⟨g, 2, none⟩ = some (.int .i64 0)) (hc3 : w.cell? ⟨g, 3, none⟩ = some (.slice none 0 0))
    (hf : ∀ j, w.frozen? ⟨g, j, none⟩ = false) :
    St w (((w.setCell ⟨g, 3, none⟩ (.slice none 0 0)).setCell ⟨g, 1, none⟩ (.int .i64 (lo : Int))).setCell ⟨g, 2, none⟩ (.int .i64 (lo : Int))) g lo (.slice none 0 0) [] where
  c0 := by go_simp
  c1 := by go_simp
  c2 := by go_simp
  c3 := by go_simp
  fr := by intro j; go_simp
  own := World.ownsRow_nil _ _ _ _
  bel := by
    have b1 : Below g w (w.setCell ⟨g, 3, none⟩ (.slice none 0 0)) := (Below.refl g w).setCell (p := ⟨g, 3, none⟩) (Nat.le_refl g) _
    have b2 : Below g w ((w.setCell ⟨g, 3, none⟩ (.slice none 0 0)).setCell ⟨g, 1, none⟩ (.int .i64 (lo : Int))) := b1.setCell (p := ⟨g, 1, none⟩) (Nat.le_refl g) _
    exact b2.setCell (p := ⟨g, 2, none⟩) (Nat.le_refl g) _
  gs := by go_simp

theorem below_undrew {w w' : World} (h : Below w.drew.heap.size w.drew w') : Below w.heap.size w w' := ⟨h.os, h.tape, h.output, h.size, h.block⟩
theorem own_shape {w : World} {B : Nat} {v : Value} {ld : List Ldr} (h : w.ownsRow B 60 2 v ld.length (ldc ld)) : (v = .slice none 0 0 ∧ ld = []) ∨ ∃ gl cap, v = .slice (some ⟨gl, 0, none⟩) ld.length cap ∧ B ≤ gl ∧ ld.length ≤ cap := by
  rcases h.2 with ⟨h1, h2⟩ | ⟨gl, cap, cur, h1, h2, _, h3, _⟩
  · exact Or.inl ⟨h1, List.eq_nil_of_length_eq_zero h2⟩
  · exact Or.inr ⟨gl, cap, h1, h2, h3⟩
theorem ld_cells {w : World} {B gl cap : Nat} {ld : List Ldr} (h : w.ownsRow B 60 2 (.slice (some ⟨gl, 0, none⟩) ld.length cap) ld.length (ldc ld)) (m : Nat) (hm : m < ld.length) :
    w.cell? ⟨gl, m * 2, none⟩ = some (.int .i64 ((ld[m]).1 : Int)) ∧ w.cell? ⟨gl, m * 2 + 1, none⟩ = some (.float .f64 (ld[m]).2) := by
  have := ldc_at ld m hm
  rw [h.cellAt (m * 2) (by omega), h.cellAt (m * 2 + 1) (by omega)]
  exact this

theorem ownsRow_ldt {w : World} {B gl cap : Nat} {ld : List Ldr} (h : w.ownsRow B 60 2 (.slice (some ⟨gl, 0, none⟩) ld.length cap) ld.length (ldc ld)) (m : Nat) (hm : m ≤ ld.length) :
    w.ownsRow B 60 2 (.slice (some ⟨gl, 0, none⟩) m cap) m (ldc (ld.take m)) := by
  rw [ldc_take]; exact ownsRow_take h m hm

theorem pushed {w wc w4 : World} {g lo m i r : Nat} {v vt v4 : Value} {ld : List Ldr} {O : Obj} (h : St w wc g lo v ld) (hm : m ≤ ld.length)
    (hvt : vt.ownBlock = none ∨ ∃ gl, vt.ownBlock = some gl ∧ g + 1 ≤ gl)
    (hown : w4.ownsRow (g + 1) 60 2 v4 (m + 1) (ldc (ld.take m) ++ [.int .i64 (i : Int), .float .f64 r])) (hgrow : (wc.alloc O).grownBy w4 vt.ownBlock) :
    ∃ g4 cap4, v4 = .slice (some ⟨g4, 0, none⟩) (m + 1) cap4 ∧ w4.cell? ⟨g, 3, none⟩ = some v ∧ w4.frozen? ⟨g, 3, none⟩ = false ∧ Hid (St w (w4.setCell ⟨g, 3, none⟩ v4) g lo v4 (ld.take m ++ [(i, r)])) := by
  have hs : g < wc.heap.size := h.gs
  have hne : some g ≠ vt.ownBlock := by
    rcases hvt with e | ⟨gl, e, hl⟩
    · rw [e]; simp
    · rw [e]; intro e2; cases e2; omega
  have hbl : w4.heap[g]? = wc.heap[g]? := (hgrow.block g (by simp; omega) hne).trans (Below.heap_alloc wc O g hs)
  have hcell : ∀ j, w4.cell? ⟨g, j, none⟩ = wc.cell? ⟨g, j, none⟩ := fun j => World.cell?_of_block (a := ⟨g, j, none⟩) hbl
  have hfroz : ∀ j, w4.frozen? ⟨g, j, none⟩ = wc.frozen? ⟨g, j, none⟩ := fun j => World.frozen?_of_block (a := ⟨g, j, none⟩) hbl
  have hsz : (wc.alloc O).heap.size = wc.heap.size + 1 := by simp
  have hgs := hgrow.size
  have hbel : Below g w w4 := by
    refine Below.grown (h.bel.alloc (Nat.le_of_lt hs) O) hgrow (by omega) ?_
    intro k hk
    rcases hvt with e | ⟨gl, e, hl⟩
    · rw [e] at hk; cases hk
    · rw [e] at hk; cases hk; omega
  have c3 : w4.cell? ⟨g, 3, none⟩ = some v := (hcell 3).trans h.c3
  have c0 : w4.cell? ⟨g, 0, none⟩ = some (.bool true) := (hcell 0).trans h.c0
  have c1 : w4.cell? ⟨g, 1, none⟩ = some (.int .i64 (lo : Int)) := (hcell 1).trans h.c1
  have c2 : w4.cell? ⟨g, 2, none⟩ = some (.int .i64 (lo : Int)) := (hcell 2).trans h.c2
  have fr : ∀ j, w4.frozen? ⟨g, j, none⟩ = false := fun j => (hfroz j).trans (h.fr j)
  have hlen : (ld.take m ++ [(i, r)]).length = m + 1 := by simp; omega
  rcases hown.2 with ⟨_, h0⟩ | ⟨g4, cap4, cur, e1, _⟩
  · omega
  · refine ⟨g4, cap4, e1, c3, fr 3, ?_⟩
    clear hcell hfroz hbl
    refine ⟨?_, ?_, ?_, ?_, ?_, ?_, hbel.setCell (p := ⟨g, 3, none⟩) (Nat.le_refl g) _, ?_⟩
    · go_simp
    · go_simp
    · go_simp
    · go_simp
    · intro j; go_simp
    · rw [hlen, ldc_append, ldc_one]
      exact ownsRow_setCell_below hown (by show g < g + 1; omega) v4
    · go_simp; omega

/-- What slide leaves: the first leader is the window's best rate. -/
def SlideEnd (w w' : World) (g : Nat) (ro : List (Option Nat)) : Prop :=
  ∃ gl n cap v, w'.cell? ⟨g, 3, none⟩ = some (.slice (some ⟨gl, 0, none⟩) (n + 1) cap) ∧ w'.cell? ⟨gl, 1, none⟩ = some (.float .f64 v) ∧ Best ro v ∧ Below g w w'

theorem slide_end {w wr : World} {g lo gl cap : Nat} {x : Ldr} {ld : List Ldr} {ro : List (Option Nat)} {a b : Value} (h : St w wr g lo (.slice (some ⟨gl, 0, none⟩) (x :: ld).length cap) (x :: ld)) (hi : LInv ro (x :: ld) lo) (hgl : g + 1 ≤ gl) :
    SlideEnd w ((wr.setCell ⟨g, 1, none⟩ a).setCell ⟨g, 2, none⟩ b) g ro := by
  have hc := (ld_cells h.own 0 (by simp)).2
  have hg : gl ≠ g := by omega
  have c3 := h.c3
  have gs := h.gs
  refine ⟨gl, ld.length, cap, x.2, ?_, ?_, hi.done rfl, ?_⟩
  · go_simp
  · have e1 : ((wr.setCell ⟨g, 1, none⟩ a).setCell ⟨g, 2, none⟩ b).cell? ⟨gl, 1, none⟩ = wr.cell? ⟨gl, 1, none⟩ :=
      World.cell?_of_block (a := ⟨gl, 1, none⟩) ((Below.heap_setCell _ ⟨g, 2, none⟩ b gl hg).trans (Below.heap_setCell wr ⟨g, 1, none⟩ a gl hg))
    rw [e1]; exact hc
  · have b1 : Below g w (wr.setCell ⟨g, 1, none⟩ a) := h.bel.setCell (p := ⟨g, 1, none⟩) (Nat.le_refl g) _
    exact b1.setCell (p := ⟨g, 2, none⟩) (Nat.le_refl g) _

set_option maxRecDepth 100000 in
set_option maxHeartbeats 2000000 in
theorem slide_any (g : Nat) (b o c : Nat) (xs : List Smp) (lo hi : Nat) (w : World) (hbg : b < g) (hgw : g < w.heap.size) (hlo : 1 ≤ lo) (hlh : lo < hi) (hhn : hi ≤ xs.length) (hn2 : xs.length ≤ 1024)
    (hcell : ∀ i, i < xs.length → w.cell? ⟨b, o + i * 2, none⟩ = some (.int .i64 (xs.getD i (0, 0)).1) ∧ w.cell? ⟨b, o + i * 2 + 1, none⟩ = some (.float .f64 (xs.getD i (0, 0)).2))
    (hc0 : w.cell? ⟨g, 0, none⟩ = some (.bool true)) (hc1 : w.cell? ⟨g, 1, none⟩ = some (.int .i64 0)) (hc2 : w.cell? ⟨g, 2, none⟩ = some (.int .i64 0)) (hc3 : w.cell? ⟨g, 3, none⟩ = some (.slice none 0 0))
    (hf : ∀ j, w.frozen? ⟨g, j, none⟩ = false) :
    Calls Yba.prog 22 #[.pointer (some ⟨g, 0, none⟩), .slice (some ⟨b, o, none⟩) xs.length c, .int .i64 (lo : Int), .int .i64 (hi : Int)] w fun e w' => e = .returned (.tuple #[]) ∧ SlideEnd w w' g (ros xs lo hi) := by
  have HC : Hid (∀ i, i < xs.length → w.cell? ⟨b, o + i * 2, none⟩ = some (.int .i64 (xs.getD i (0, 0)).1) ∧ w.cell? ⟨b, o + i * 2 + 1, none⟩ = some (.float .f64 (xs.getD i (0, 0)).2)) := hcell
  clear hcell
  obtain ⟨i0, hin, hz0, hz1, hz2⟩ := info_parts Yba.info60
  have HS0 : Hid (St w (((w.setCell ⟨g, 3, none⟩ (.slice none 0 0)).setCell ⟨g, 1, none⟩ (.int .i64 (lo : Int))).setCell ⟨g, 2, none⟩ (.int .i64 (lo : Int))) g lo (.slice none 0 0) []) :=
    st_start w g lo hgw hc0 hc1 hc2 hc3 hf
  go_enter Yba.func22, Yba.ntmps22
  go_wp2_with fail
  go_loopg [8] (hi - lo) (fun k vi wr => ∃ (i : Nat) (v : Value) (ld : List Ldr), lo ≤ i ∧ i ≤ hi ∧ k = hi - i ∧ vi = .int .i64 (i : Int) ∧ ld.length ≤ i ∧ St w wr g lo v ld ∧ LInv (ros xs lo i) ld lo)
  case atStart => exact ⟨lo, _, [], Nat.le_refl _, by omega, rfl, rfl, Nat.zero_le _, HS0.out, by rw [ros_self]; exact LInv.start lo⟩
  case round =>
    clear HS0 hc0 hc1 hc2 hc3 hf
    obtain ⟨i, v, ld, hli, hih, rfl, rfl, hld, hst, hinv⟩ := hrel
    have HST : Hid (St w wr g lo v ld) := hst
    have HI : Hid (LInv (ros xs lo i) ld lo) := hinv
    clear hinv
    by_cases hlt : i < hi
    · have k1 := HC.out (i - 1) (by omega)
      have k2 := HC.out i (by omega)
      obtain ⟨P1, hP1⟩ : ∃ P, P = xs.getD (i - 1) (0, 0) := ⟨_, rfl⟩
      obtain ⟨P2, hP2⟩ : ∃ P, P = xs.getD i (0, 0) := ⟨_, rfl⟩
      rw [← hP1] at k1
      rw [← hP2] at k2
      have HR : Hid (ros xs lo (i + 1) = ros xs lo i ++ [rt P1 P2]) := by show _ = _; rw [ros_succ xs lo i hli, hP1, hP2]
      clear hP1 hP2
      have d1 := (hst.bel.cell (p := ⟨b, o + (i - 1) * 2, none⟩) hbg).trans k1.1
      have d2 := (hst.bel.cell (p := ⟨b, o + (i - 1) * 2 + 1, none⟩) hbg).trans k1.2
      have d3 := (hst.bel.cell (p := ⟨b, o + i * 2, none⟩) hbg).trans k2.1
      have d4 := (hst.bel.cell (p := ⟨b, o + i * 2 + 1, none⟩) hbg).trans k2.2
      clear k1 k2 hst
      have e1 : (0 : Int) ≤ (i : Int) - 1 := by omega
      have e2 : (i : Int) - 1 < (xs.length : Int) := by omega
      have e3 : (i : Int) < (xs.length : Int) := by omega
      have e5 : IntKind.i64.wrap ((i : Int) - 1) = ((i - 1 : Nat) : Int) := by rw [IntKind.wrap_i64]; omega
      have e6 : i - 1 < xs.length := by omega
      have e7 : i < xs.length := by omega
      go_upto_region 6 with fail
      go_cut [9] (fun s9 w2 => ∃ r, s9 = .float .f64 r ∧ RtOk (rt P1 P2) r ∧ Below wr.heap.size wr w2)
      case first =>
        go_region_with (go_at_call 25; refine (rate_any P1 P2 _).mono ?_; rintro e w' ⟨r, rfl, hr, hb⟩)
        all_goals
          go_wp2_with fail
          go_meet
          case rel => exact ⟨r, rfl, hr, below_undrew hb⟩
      case rest =>
        obtain ⟨r, rfl, hr, hbc⟩ := hcut
        have hst := HST.out.below hbc
        clear HST d1 d2 d3 d4 e1 e2 e3 e5 e6 e7 hbc
        have HRT : Hid (RtOk (rt P1 P2) r) := hr
        clear hr
        rcases own_shape hst.own with ⟨rfl, rfl⟩ | ⟨gl, cap, rfl, hgl, hcap⟩
        · have c0 := hst.c0
          have c3 := hst.c3
          have fr := hst.fr
          have gs := hst.gs
          have HST : Hid (St w wc g lo (.slice none 0 0) []) := hst
          clear hst
          go_wp2_with fail
          go_loopg [10] 0 (fun q vn w2 => w2 = wc ∧ q = 0 ∧ vn = .int .i64 (0 : Int))
          case atStart => exact ⟨rfl, rfl, rfl⟩
          case round =>
            obtain ⟨rfl, rfl, rfl⟩ := hrel
            go_wp2_with (at_builtin; refine wpList_append_own _ rfl _ _ 52 rfl (g + 1) 60 i0 _ 2 16 Yba.underlying52 hin hz0 hz1 hz2 rfl (by decide) _ 0 _ rfl (HST.out.own.alloc _) ⟨wr.heap.size, 0, none⟩ 1 1 [.int .i64 (i : Int), .float .f64 r] rfl rfl (cell_two_new _ _ _ _) (ldc_one i r ▸ ldc_one_cell [(i, r)]) (by unfold maxLen; omega) (by omega) (by simp; omega) ?_; intro v4 w4 hown4 hgrow4 _; obtain ⟨g4, cap4, hv4, hq3, hqf, HN⟩ := pushed (i := i) (r := r) (m := 0) (ld := []) HST.out (Nat.le_refl _) (Or.inl rfl) hown4 hgrow4; subst hv4)
            go_roundg (hi - (i + 1))
            case measure => omega
            case rel =>
              refine ⟨i + 1, _, ([] : List Ldr).take 0 ++ [(i, r)], by omega, by omega, rfl, by go_num, by simp, HN.out, ?_⟩
              rw [HR.out]
              exact HI.out.push HRT.out hli (Nat.le_refl _) (fun m h _ => by simp at h) (Or.inl rfl)
        · have c0 := hst.c0
          have c3 := hst.c3
          have fr := hst.fr
          have gs := hst.gs
          have HST : Hid (St w wc g lo (.slice (some ⟨gl, 0, none⟩) ld.length cap) ld) := hst
          clear hst
          go_wp2_with fail
          go_loopg [10] ld.length (fun q vn w2 => w2 = wc ∧ q ≤ ld.length ∧ vn = .int .i64 (q : Int) ∧ ∀ m (h : m < ld.length), q ≤ m → aheadB (ld[m]).2 r = false)
          case atStart => exact ⟨rfl, Nat.le_refl _, rfl, fun m h h2 => by omega⟩
          case round =>
            obtain ⟨rfl, hq, rfl, hpop⟩ := hrel
            have HP : Hid (∀ m (h : m < ld.length), gk ≤ m → aheadB (ld[m]).2 r = false) := hpop
            clear hpop
            by_cases hq0 : 0 < gk
            · have hq1 : gk - 1 < ld.length := by omega
              have hrc := (ld_cells HST.out.own (gk - 1) hq1).2
              have e9 : ((gk : Int) - 1).toNat = gk - 1 := by omega
              generalize hx : (ld[gk - 1]'hq1).2 = x at *
              have HX : Hid ((ld[gk - 1]'hq1).2 = x) := hx
              clear hx
              cases hA : aheadB x r
              · go_wp2_with (go_at_call 26; refine (ahead_any _ _ _ _ (by assumption)).mono ?_; rintro e w' ⟨rfl, hw⟩; obtain rfl := hw.symm; clear hw; rw [hA])
                go_roundg (gk - 1)
                case measure => omega
                case rel =>
                  refine ⟨rfl, by omega, by go_num, fun m h h2 => ?_⟩
                  by_cases hm : m = gk - 1
                  · subst hm; rw [HX.out]; exact hA
                  · exact HP.out m h (by omega)
              · go_wp2_with (first | (go_at_call 26; refine (ahead_any _ _ _ _ (by assumption)).mono ?_; rintro e w' ⟨rfl, hw⟩; obtain rfl := hw.symm; clear hw; rw [hA]) | (at_builtin; refine wpList_append_own _ rfl _ _ 52 rfl (g + 1) 60 i0 _ 2 16 Yba.underlying52 hin hz0 hz1 hz2 rfl (by decide) _ gk _ rfl ((ownsRow_ldt HST.out.own gk hq).alloc _) ⟨wr.heap.size, 0, none⟩ 1 1 [.int .i64 (i : Int), .float .f64 r] rfl rfl (cell_two_new _ _ _ _) (ldc_one i r ▸ ldc_one_cell [(i, r)]) (by unfold maxLen; omega) (by omega) (by simp; omega) ?_; intro v4 w4 hown4 hgrow4 _; obtain ⟨g4, cap4, hv4, hq3, hqf, HN⟩ := pushed (i := i) (r := r) HST.out hq (Or.inr ⟨gl, rfl, hgl⟩) hown4 hgrow4; subst hv4))
                go_roundg (hi - (i + 1))
                case measure => omega
                case rel =>
                  refine ⟨i + 1, _, ld.take gk ++ [(i, r)], by omega, by omega, rfl, by go_num, by simp; omega, HN.out, ?_⟩
                  rw [HR.out]
                  exact HI.out.push HRT.out hli hq HP.out (Or.inr ⟨hq1, by rw [HX.out]; exact hA⟩)
            · go_wp2_with (at_builtin; refine wpList_append_own _ rfl _ _ 52 rfl (g + 1) 60 i0 _ 2 16 Yba.underlying52 hin hz0 hz1 hz2 rfl (by decide) _ gk _ rfl ((ownsRow_ldt HST.out.own gk hq).alloc _) ⟨wr.heap.size, 0, none⟩ 1 1 [.int .i64 (i : Int), .float .f64 r] rfl rfl (cell_two_new _ _ _ _) (ldc_one i r ▸ ldc_one_cell [(i, r)]) (by unfold maxLen; omega) (by omega) (by simp; omega) ?_; intro v4 w4 hown4 hgrow4 _; obtain ⟨g4, cap4, hv4, hq3, hqf, HN⟩ := pushed (i := i) (r := r) HST.out hq (Or.inr ⟨gl, rfl, hgl⟩) hown4 hgrow4; subst hv4)
              go_roundg (hi - (i + 1))
              case measure => omega
              case rel =>
                refine ⟨i + 1, _, ld.take gk ++ [(i, r)], by omega, by omega, rfl, by go_num, by simp; omega, HN.out, ?_⟩
                rw [HR.out]
                exact HI.out.push HRT.out hli hq HP.out (Or.inl (by omega))
    · obtain rfl : i = hi := by omega
      have hne : ld ≠ [] := HI.out.ne (by intro e; have := congrArg List.length e; simp [ros] at this; omega)
      rcases own_shape hst.own with ⟨_, h0⟩ | ⟨gl, cap, rfl, hgl, hcap⟩
      · exact absurd h0 hne
      · obtain ⟨x, ld', rfl⟩ : ∃ x ld', ld = x :: ld' := by
          cases ld with
          | nil => exact absurd rfl hne
          | cons x l => exact ⟨x, l, rfl⟩
        have hx0 := (ld_cells hst.own 0 (by simp)).1
        have hx1 := (HI.out.all x (by simp)).1
        have c3 := hst.c3
        have c1 := hst.c1
        have c2 := hst.c2
        have fr := hst.fr
        have gs := hst.gs
        have HE : Hid (SlideEnd w ((wr.setCell ⟨g, 1, none⟩ (.int .i64 (lo : Int))).setCell ⟨g, 2, none⟩ (.int .i64 (i : Int))) g (ros xs lo i)) := slide_end HST.out HI.out hgl
        clear hst HST HI hgl
        go_wp2_with fail
        refine wp_loop_rounds 1 ?_
        rw [rounds_succ]
        go_wp2
        go_end0
        exact ⟨rfl, HE.out⟩
end Go.Proofs.Ybulkdeha
