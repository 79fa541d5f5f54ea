/-
  The proof of 'Rows.LawS5282AExactToldSaid': the row's step and the told card, after the guide's worked texts at this function's number and types.
-/
import Derived.Test.YbulkdejeFmtCards
import Derived.Test.YbulkdejeFmtExact
import Derived.ProofKit
import Derived.OpenShut
import Derived.ChangeOld
import Derived.ChangeSame
import Derived.Laws.IdiomArrays
import Derived.Stop.JoinedAt
import Derived.Stop.Texts
import Derived.Stop.ErrReads
import Derived.Stop.JoinedTold
import Derived.SevenToldRow
namespace Go.Proofs.YbulkdejeFmt.lawS5282AExact
open Go.ChangeShapes Go.WideShapes Go.ChangeAt Go.RowKit Go.Kit
open Go.Extern.Stop Go.Stop Go.Extern
set_option linter.unusedVariables false

theorem own : ownKnob Ybaf.prog.godebug = none := by kernel_rfl
theorem laidOut : laidOutB Ybaf.pinned.checked.prog = true := by kernel_rfl
theorem laidOut' : laidOutB Ybaf.prog = true := by kernel_rfl
theorem stops : Ybaf.pinned.checked.prog.stops = ["fmt.errorf"] := by kernel_rfl
theorem stopKnobs : Ybaf.pinned.checked.prog.stopKnobs = [] := by kernel_rfl
theorem quiet (os : Os) : Stop.quiet Ybaf.pinned.checked.prog os := by
  intro k hk
  rw [stopKnobs] at hk
  cases hk
theorem cells22 : Ybaf.prog.cellsOf 22 = 4 := by kernel_rfl
theorem cells5 : Ybaf.prog.cellsOf 5 = 1 := by kernel_rfl
theorem list4 {α : Type} (l : List α) (h : (⟨l⟩ : Array α).size = 4) : ∃ a b c d, l = [a, b, c, d] := by
  match l, h with
  | [a, b, c, d], _ => exact ⟨a, b, c, d, rfl⟩

/-- What the walk is told of a slice of bytes that came in. -/
theorem open_tail {H : Type} {enc : TypeId × Value → H} {w : World} {base : Nat} {spare : Nat → Bool} {held : Bool} {fuel : Nat} {a : Option Addr} {len cap : Nat} {x : DataW H × List MemPlace}
    (h : DataW.trod enc Ybaf.prog w base spare held fuel 23 [.slice a len cap] = some x) :
    ∃ zs : List Int, len ≤ zs.length ∧ (a = none → len = 0 ∧ cap = 0) ∧ ∀ k, k < len → ∃ b off, a = some ⟨b, off, none⟩ ∧ b < w.heap.size ∧ w.cell? ⟨b, off + k, none⟩ = some (.int .u8 (zs.getD k 0)) := by
  rcases open_ints Ybaf.underlying23 Ybaf.underlying5 cells5 h with ⟨hcs, _⟩ | ⟨ad, l, c, zs, hcs, _, hl, hm, hz, _, hcell, hwz⟩
  · simp at hcs
    obtain ⟨rfl, rfl, rfl⟩ := hcs
    exact ⟨[], Nat.le_refl _, fun _ => ⟨rfl, rfl⟩, fun k hk => by omega⟩
  · simp at hcs
    obtain ⟨rfl, rfl, rfl⟩ := hcs
    have hz' : len ≤ zs.length := by
      rw [hz]; split <;> omega
    refine ⟨zs, hz', (fun h => absurd h (by simp)), fun k hk => ?_⟩
    obtain ⟨b, off, spot⟩ := ad
    have hc := hcell k (by omega)
    have hspot : spot = none := by simpa [Addr.add] using World.cell?_spot (hcell 0 (by omega))
    subst hspot
    rw [add_plain] at hc
    exact ⟨b, off, rfl, World.block_lt_of_cell? w _ hc, hc⟩

set_option maxRecDepth 100000 in
theorem walk (F : Interp) (x0 x1 x2 x3 : Int) (a : Option Addr) (n c : Nat) (zs : List Int) (w : World) (hF : F.answers w.tape) (hz : n ≤ zs.length)
    (w0 : (Lit.int .u8 x0).wf = true) (w1 : (Lit.int .u8 x1).wf = true) (w2 : (Lit.int .u8 x2).wf = true) (w3 : (Lit.int .u8 x3).wf = true) (hnil : a = none → n = 0 ∧ c = 0)
    (hcell : ∀ k, k < n → ∃ b off, a = some ⟨b, off, none⟩ ∧ b < w.heap.size ∧ w.cell? ⟨b, off + k, none⟩ = some (.int .u8 (zs.getD k 0))) :
    Calls Ybaf.prog 3 #[.agg #[.int .u8 x0, .int .u8 x1, .int .u8 x2, .int .u8 x3], .slice a n c] w fun e w' => e = .returned (.bool true) ∧ Below w.heap.size w w' := by
  by_cases hbig : 1024 < n
  · clear hcell hnil hF
    go_enter Ybaf.func3, Ybaf.ntmps3
    go_wp2
    go_ret
    exact ⟨rfl, (Below.refl _ _).alloc (Nat.le_refl _) _⟩
  · exact ex_walk F x0 x1 x2 x3 a n c zs w hF (by omega) hz (bounds_u8 w0) (bounds_u8 w1) (bounds_u8 w2) (bounds_u8 w3) hnil hcell

set_option maxRecDepth 100000 in
theorem lifted (os : Os) (started : os.Started) (H : Type) (enc : TypeId × Value → H) :
    ReturnsInTold none {} Ybaf.checked os 3 .any Input.okWide ((OpenSpec.ofChange Rows.lawS5282AExactSpec).preRow enc Ybaf.prog Ybaf.f3 [] false []) (fun F => ((OpenSpec.ofChange Rows.lawS5282AExactSpec).at F).post enc Ybaf.prog Ybaf.f3 false true false false) (aloneAtReturn Ybaf.prog) nothingAlways := by
  refine returnsInTold_of_row (C := Ybaf.checked) (s := OpenSpec.ofChange Rows.lawS5282AExactSpec) (by kernel_rfl) own started (by kernel_rfl) Ybaf.func3
    (OpenSpec.witness_stopped (enc := enc) (C := Ybaf.checked) false ⟨#[], #[.agg #[.int .u8 0, .int .u8 0, .int .u8 0, .int .u8 0], .slice none 0 0], []⟩ 8 (by kernel_rfl) (by kernel_rfl) (by kernel_rfl) (by kernel_rfl)) ?_
  intro F W base args ds gs before _ hF hval0 hW _ _ _ _ _
  have hval : ∀ (j : Nat) t v, Ybaf.f3.params[j]? = some t → args[j]? = some v → Value.okWide Ybaf.prog W .any base t v := hval0
  have hW' := hW
  obtain ⟨p, q, hA0, hV, rfl, hfz, hnd⟩ := hW
  have hA : DataW.TrodAll enc Ybaf.prog W 0 (fun _ => true) true Ybaf.f3.params.toList args.toList ds p := hA0
  rw [Ybaf.params3] at hA hval
  obtain ⟨v0, v1, d0, d1, p0, p1, rfl, rfl, rfl, h0, h1⟩ := trodAll_two hA
  obtain ⟨rfl, rfl⟩ := trodVars_none hV
  -- the array by value
  obtain ⟨cs, rfl, hsz, _⟩ : ∃ cs, v0 = .agg cs ∧ cs.size = Ybaf.prog.cellsOf 22 ∧ Row.okWide Ybaf.prog W .any base 22 cs := by
    have := hval 0 22 v0 rfl rfl
    simpa [Value.okWide, Ybaf.underlying22] using this
  rw [cells22] at hsz
  obtain ⟨l⟩ := cs
  obtain ⟨c0, c1, c2, c3, rfl⟩ := list4 l hsz
  obtain ⟨fuel, hf⟩ := h0
  obtain ⟨y0, y1, y2, y3, m, hx, hy0, hy1, hy2, hy3⟩ := trod_array4 Ybaf.underlying22 cells5 hf
  obtain ⟨x0, e0, rfl, w0⟩ := DataW.trod_int Ybaf.underlying5 hy0
  obtain ⟨x1, e1, rfl, w1⟩ := DataW.trod_int Ybaf.underlying5 hy1
  obtain ⟨x2, e2, rfl, w2⟩ := DataW.trod_int Ybaf.underlying5 hy2
  obtain ⟨x3, e3, rfl, w3⟩ := DataW.trod_int Ybaf.underlying5 hy3
  simp at e0 e1 e2 e3
  subst e0 e1 e2 e3
  simp only [Prod.mk.injEq] at hx
  obtain ⟨rfl, rfl⟩ := hx
  -- the slice
  obtain ⟨a1, len1, cap1, rfl⟩ := okWide_slice Ybaf.underlying23 (hval 1 23 v1 rfl rfl)
  have k1 := h1
  have lt1 : ∀ x ∈ p1, x.block < W.heap.size := by obtain ⟨m, hm⟩ := k1; exact DataW.trod_lt m _ _ _ hm
  obtain ⟨zs, hz, hnil, hzs⟩ : ∃ zs : List Int, len1 ≤ zs.length ∧ (a1 = none → len1 = 0 ∧ cap1 = 0) ∧ ∀ k, k < len1 → ∃ b off, a1 = some ⟨b, off, none⟩ ∧ b < W.heap.size ∧ W.cell? ⟨b, off + k, none⟩ = some (.int .u8 (zs.getD k 0)) := by
    obtain ⟨fuel, hf⟩ := h1
    exact open_tail hf
  clear hA0 hval0
  have arrayReads : ∀ (W' : World) (sp : Nat → Bool), DataW.Trod enc Ybaf.prog W' 0 sp true 22 (.agg #[.int .u8 x0, .int .u8 x1, .int .u8 x2, .int .u8 x3]) (.agg [.lit (.int .u8 x0), .lit (.int .u8 x1), .lit (.int .u8 x2), .lit (.int .u8 x3)]) [] := fun W' sp =>
    ⟨2, by simp [DataW.trod, Value.cells, Ybaf.underlying22, Ybaf.underlying5, cells22, cells5, w0, w1, w2, w3, show List.range 4 = [0, 1, 2, 3] from rfl]⟩
  refine (walk F.told x0 x1 x2 x3 a1 len1 cap1 zs W hF hz w0 w1 w2 w3 hnil hzs).mono fun e W' ⟨he, bel⟩ => ?_
  subst he
  refine ⟨_, rfl, _, _, _, [], _, [], hW', trodAll_mk1 (shut_bool Ybaf.underlying4 _), trodAll_mk2 (arrayReads _ _) (Below.trod laidOut' (by kernel_rfl) (of_decide_eq_true (by kernel_rfl)) k1 bel lt1), rfl, bel.frame _, fun h => by cases h⟩

/-- THE STATEMENT -/
theorem proved : Rows.LawS5282AExactToldSaid :=
  Claim7.holds_of_told_any 3 Ybaf.f3 "fmt.errorf" [] [] _ _ _ (by kernel_rfl) rfl rfl rfl laidOut (by kernel_rfl) rfl ⟨rfl, rfl, rfl, rfl, rfl, rfl, rfl⟩ rfl rfl (by kernel_rfl) (by kernel_rfl) Ybaf.func3 (by kernel_rfl)
    (of_decide_eq_true (by kernel_rfl)) (by unfold Func.isWrapper; first | (rw [if_pos (by decide +kernel)]; kernel_rfl) | (rw [if_neg (by decide +kernel)]; exact ⟨rfl, rfl⟩)) stops.symm rfl stopKnobs.symm (by kernel_rfl)
    (by kernel_rfl) (by kernel_rfl) (by kernel_rfl) (by kernel_rfl) (by kernel_rfl) (by kernel_rfl) (by kernel_rfl) (by kernel_rfl) (by kernel_rfl) rfl (by kernel_rfl) rfl rfl
    rfl rfl
    rfl (by kernel_rfl) (by kernel_rfl) (by kernel_rfl) (by decide) (by kernel_rfl)
    (OpenClaim.moreEntering_of (by kernel_rfl) (by kernel_rfl) (by kernel_rfl) (by kernel_rfl) (by kernel_rfl) (by kernel_rfl) (by kernel_rfl) (by kernel_rfl) (by kernel_rfl) (by kernel_rfl))
    ⟨_, WideRow.started_initial, quiet _⟩
    (fun os started _ H enc _ => lifted os started H enc)
#print axioms proved
end Go.Proofs.YbulkdejeFmt.lawS5282AExact
