/-
  The two ways of recovering what a sum of doubles lost to rounding, on whole numbers: both give it exactly.
-/
import Derived.Test.YbulkdehaFloat
namespace Go.Proofs.Ybulkdeha.Fl

theorem rnd_tiny (N : Int) (h : -9007199254740992 ≤ N ∧ N ≤ 9007199254740992) : rndZ N = N :=
  rndZ_exact 0 N (by rw [Int.pow_zero, Int.emod_one]) (by have e : 2 ^ (53 + 0) = 9007199254740992 := rfl; omega)

/-- What is recovered. -/
structure Two (A B S : Int) : Prop where
  exA : rndZ A = A
  exS : rndZ S = S
  one : rndZ (S - A) = S - A
  lost : -1024 ≤ A + B - S ∧ A + B - S ≤ 1024
  big : -8999999999999999999 ≤ S ∧ S ≤ 8999999999999999999
  two : rndZ (S - rndZ (S - B)) = S - rndZ (S - B)
  near : -2048 ≤ A - rndZ (S - B) ∧ A - rndZ (S - B) ≤ 2048

/-- d = 0 -/
theorem two_0 (A B S : Int) (h1 : 4503599627370496 ≤ A.natAbs) (h2 : A.natAbs < 9007199254740992) (h3 : B.natAbs < 9007199254740992) (hS : rndZ (A + B) = S) : Two A B S := by
  have exA := rnd_tiny A (by omega)
  by_cases h : (A + B).natAbs ≤ 9007199254740992
  · have e := rnd_tiny (A + B) (by omega)
    rw [hS] at e
    subst e
    have e1 : A + B - B = A := by omega
    have e2 : A + B - A = B := by omega
    have exB := rnd_tiny B (by omega)
    refine ⟨exA, hS, ?_, by omega, by omega, ?_, ?_⟩
    · rw [e2]; exact exB
    · rw [e1, exA, e2]; exact exB
    · rw [e1, exA]; omega
  · have r := rndZ_in 1 (A + B) (by have e : 2 ^ (52 + 1) = 9007199254740992 := rfl; omega) (by have e : 2 ^ (53 + 1) = 18014398509481984 := rfl; omega)
    rw [hS] at r
    have p1 : (2 : Int) ^ 1 = 2 := rfl
    rw [p1] at r
    have exS := rndZ_exact 1 S (by rw [p1]; exact r.1) (by have e : 2 ^ (53 + 1) = 18014398509481984 := rfl; omega)
    have one := rnd_tiny (S - A) (by omega)
    have tb := rnd_tiny (S - B) (by omega)
    refine ⟨exA, exS, one, by omega, by omega, ?_, ?_⟩
    · rw [tb]; exact rnd_tiny _ (by omega)
    · rw [tb]; omega

/-- d = 1 -/
theorem two_1 (m B S : Int) (h1 : 4503599627370496 ≤ m.natAbs) (h2 : m.natAbs < 9007199254740992) (h3 : B.natAbs < 9007199254740992) (hS : rndZ (m * 2 + B) = S) : Two (m * 2) B S := by
  have q1 : (2 : Int) ^ 1 = 2 := rfl
  have exA := rndZ_exact 1 (m * 2) (by rw [q1]; omega) (by have e : 2 ^ (53 + 1) = 18014398509481984 := rfl; omega)
  by_cases h : (m * 2 + B).natAbs ≤ 9007199254740992
  · have e := rnd_tiny (m * 2 + B) (by omega)
    rw [hS] at e
    subst e
    have e1 : m * 2 + B - B = m * 2 := by omega
    have e2 : m * 2 + B - m * 2 = B := by omega
    have exB := rnd_tiny B (by omega)
    refine ⟨exA, hS, ?_, by omega, by omega, ?_, ?_⟩
    · rw [e2]; exact exB
    · rw [e1, exA, e2]; exact exB
    · rw [e1, exA]; omega
  · have hc : (9007199254740992 ≤ (m * 2 + B).natAbs ∧ (m * 2 + B).natAbs ≤ 18014398509481984) ∨ (18014398509481984 ≤ (m * 2 + B).natAbs ∧ (m * 2 + B).natAbs ≤ 36028797018963968) := by omega
    rcases hc with hc | hc
    · have p1 : (2 : Int) ^ 1 = 2 := rfl
      have r := rndZ_in 1 (m * 2 + B) (by have e : 2 ^ (52 + 1) = 9007199254740992 := rfl; omega) (by have e : 2 ^ (53 + 1) = 18014398509481984 := rfl; omega)
      rw [hS, p1] at r
      have exS := rndZ_exact 1 S (by rw [p1]; exact r.1) (by have e : 2 ^ (53 + 1) = 18014398509481984 := rfl; omega)
      have q1a : (2 : Int) ^ 1 = 2 := rfl
      have one := rndZ_exact 1 (S - m * 2) (by rw [q1a]; omega) (by have e : 2 ^ (53 + 1) = 18014398509481984 := rfl; omega)
      by_cases hn : 9007199254740992 ≤ (S - B).natAbs
      · have r2 := rndZ_in 1 (S - B) (by have e : 2 ^ (52 + 1) = 9007199254740992 := rfl; omega) (by have e : 2 ^ (53 + 1) = 18014398509481984 := rfl; omega)
        rw [q1] at r2
        refine ⟨exA, exS, one, by omega, by omega, ?_, by omega⟩
        exact rndZ_exact 1 _ (by rw [q1a]; omega) (by have e : 2 ^ (53 + 1) = 18014398509481984 := rfl; omega)
      · have r2 := rnd_tiny (S - B) (by omega)
        refine ⟨exA, exS, one, by omega, by omega, ?_, by omega⟩
        exact rnd_tiny _ (by omega)
    · have p2 : (2 : Int) ^ 2 = 4 := rfl
      have r := rndZ_in 2 (m * 2 + B) (by have e : 2 ^ (52 + 2) = 18014398509481984 := rfl; omega) (by have e : 2 ^ (53 + 2) = 36028797018963968 := rfl; omega)
      rw [hS, p2] at r
      have exS := rndZ_exact 2 S (by rw [p2]; exact r.1) (by have e : 2 ^ (53 + 2) = 36028797018963968 := rfl; omega)
      have q1a : (2 : Int) ^ 1 = 2 := rfl
      have one := rndZ_exact 1 (S - m * 2) (by rw [q1a]; omega) (by have e : 2 ^ (53 + 1) = 18014398509481984 := rfl; omega)
      by_cases hn : 9007199254740992 ≤ (S - B).natAbs
      · have r2 := rndZ_in 1 (S - B) (by have e : 2 ^ (52 + 1) = 9007199254740992 := rfl; omega) (by have e : 2 ^ (53 + 1) = 18014398509481984 := rfl; omega)
        rw [q1] at r2
        refine ⟨exA, exS, one, by omega, by omega, ?_, by omega⟩
        exact rndZ_exact 1 _ (by rw [q1a]; omega) (by have e : 2 ^ (53 + 1) = 18014398509481984 := rfl; omega)
      · have r2 := rnd_tiny (S - B) (by omega)
        refine ⟨exA, exS, one, by omega, by omega, ?_, by omega⟩
        exact rnd_tiny _ (by omega)

/-- d = 2 -/
theorem two_2 (m B S : Int) (h1 : 4503599627370496 ≤ m.natAbs) (h2 : m.natAbs < 9007199254740992) (h3 : B.natAbs < 9007199254740992) (hS : rndZ (m * 4 + B) = S) : Two (m * 4) B S := by
  have q2 : (2 : Int) ^ 2 = 4 := rfl
  have exA := rndZ_exact 2 (m * 4) (by rw [q2]; omega) (by have e : 2 ^ (53 + 2) = 36028797018963968 := rfl; omega)
  by_cases h : (m * 4 + B).natAbs ≤ 9007199254740992
  · have e := rnd_tiny (m * 4 + B) (by omega)
    rw [hS] at e
    subst e
    have e1 : m * 4 + B - B = m * 4 := by omega
    have e2 : m * 4 + B - m * 4 = B := by omega
    have exB := rnd_tiny B (by omega)
    refine ⟨exA, hS, ?_, by omega, by omega, ?_, ?_⟩
    · rw [e2]; exact exB
    · rw [e1, exA, e2]; exact exB
    · rw [e1, exA]; omega
  · have hc : (9007199254740992 ≤ (m * 4 + B).natAbs ∧ (m * 4 + B).natAbs ≤ 18014398509481984) ∨ (18014398509481984 ≤ (m * 4 + B).natAbs ∧ (m * 4 + B).natAbs ≤ 36028797018963968) ∨ (36028797018963968 ≤ (m * 4 + B).natAbs ∧ (m * 4 + B).natAbs ≤ 72057594037927936) := by omega
    rcases hc with hc | hc | hc
    · have p1 : (2 : Int) ^ 1 = 2 := rfl
      have r := rndZ_in 1 (m * 4 + B) (by have e : 2 ^ (52 + 1) = 9007199254740992 := rfl; omega) (by have e : 2 ^ (53 + 1) = 18014398509481984 := rfl; omega)
      rw [hS, p1] at r
      have exS := rndZ_exact 1 S (by rw [p1]; exact r.1) (by have e : 2 ^ (53 + 1) = 18014398509481984 := rfl; omega)
      have q1a : (2 : Int) ^ 1 = 2 := rfl
      have one := rndZ_exact 1 (S - m * 4) (by rw [q1a]; omega) (by have e : 2 ^ (53 + 1) = 18014398509481984 := rfl; omega)
      by_cases hn : 18014398509481984 ≤ (S - B).natAbs
      · have r2 := rndZ_in 2 (S - B) (by have e : 2 ^ (52 + 2) = 18014398509481984 := rfl; omega) (by have e : 2 ^ (53 + 2) = 36028797018963968 := rfl; omega)
        rw [q2] at r2
        refine ⟨exA, exS, one, by omega, by omega, ?_, by omega⟩
        exact rndZ_exact 1 _ (by rw [q1a]; omega) (by have e : 2 ^ (53 + 1) = 18014398509481984 := rfl; omega)
      · have q1b : (2 : Int) ^ 1 = 2 := rfl
        have r2 := rndZ_in 1 (S - B) (by have e : 2 ^ (52 + 1) = 9007199254740992 := rfl; omega) (by have e : 2 ^ (53 + 1) = 18014398509481984 := rfl; omega)
        rw [q1b] at r2
        refine ⟨exA, exS, one, by omega, by omega, ?_, by omega⟩
        exact rndZ_exact 1 _ (by have q : (2 : Int) ^ 1 = 2 := rfl; rw [q]; omega) (by have e : 2 ^ (53 + 1) = 18014398509481984 := rfl; omega)
    · have p2 : (2 : Int) ^ 2 = 4 := rfl
      have r := rndZ_in 2 (m * 4 + B) (by have e : 2 ^ (52 + 2) = 18014398509481984 := rfl; omega) (by have e : 2 ^ (53 + 2) = 36028797018963968 := rfl; omega)
      rw [hS, p2] at r
      have exS := rndZ_exact 2 S (by rw [p2]; exact r.1) (by have e : 2 ^ (53 + 2) = 36028797018963968 := rfl; omega)
      have q2a : (2 : Int) ^ 2 = 4 := rfl
      have one := rndZ_exact 2 (S - m * 4) (by rw [q2a]; omega) (by have e : 2 ^ (53 + 2) = 36028797018963968 := rfl; omega)
      by_cases hn : 18014398509481984 ≤ (S - B).natAbs
      · have r2 := rndZ_in 2 (S - B) (by have e : 2 ^ (52 + 2) = 18014398509481984 := rfl; omega) (by have e : 2 ^ (53 + 2) = 36028797018963968 := rfl; omega)
        rw [q2] at r2
        refine ⟨exA, exS, one, by omega, by omega, ?_, by omega⟩
        exact rndZ_exact 2 _ (by rw [q2a]; omega) (by have e : 2 ^ (53 + 2) = 36028797018963968 := rfl; omega)
      · have q1b : (2 : Int) ^ 1 = 2 := rfl
        have r2 := rndZ_in 1 (S - B) (by have e : 2 ^ (52 + 1) = 9007199254740992 := rfl; omega) (by have e : 2 ^ (53 + 1) = 18014398509481984 := rfl; omega)
        rw [q1b] at r2
        refine ⟨exA, exS, one, by omega, by omega, ?_, by omega⟩
        exact rndZ_exact 1 _ (by have q : (2 : Int) ^ 1 = 2 := rfl; rw [q]; omega) (by have e : 2 ^ (53 + 1) = 18014398509481984 := rfl; omega)
    · have p3 : (2 : Int) ^ 3 = 8 := rfl
      have r := rndZ_in 3 (m * 4 + B) (by have e : 2 ^ (52 + 3) = 36028797018963968 := rfl; omega) (by have e : 2 ^ (53 + 3) = 72057594037927936 := rfl; omega)
      rw [hS, p3] at r
      have exS := rndZ_exact 3 S (by rw [p3]; exact r.1) (by have e : 2 ^ (53 + 3) = 72057594037927936 := rfl; omega)
      have q2a : (2 : Int) ^ 2 = 4 := rfl
      have one := rndZ_exact 2 (S - m * 4) (by rw [q2a]; omega) (by have e : 2 ^ (53 + 2) = 36028797018963968 := rfl; omega)
      by_cases hn : 18014398509481984 ≤ (S - B).natAbs
      · have r2 := rndZ_in 2 (S - B) (by have e : 2 ^ (52 + 2) = 18014398509481984 := rfl; omega) (by have e : 2 ^ (53 + 2) = 36028797018963968 := rfl; omega)
        rw [q2] at r2
        refine ⟨exA, exS, one, by omega, by omega, ?_, by omega⟩
        exact rndZ_exact 2 _ (by rw [q2a]; omega) (by have e : 2 ^ (53 + 2) = 36028797018963968 := rfl; omega)
      · have q1b : (2 : Int) ^ 1 = 2 := rfl
        have r2 := rndZ_in 1 (S - B) (by have e : 2 ^ (52 + 1) = 9007199254740992 := rfl; omega) (by have e : 2 ^ (53 + 1) = 18014398509481984 := rfl; omega)
        rw [q1b] at r2
        refine ⟨exA, exS, one, by omega, by omega, ?_, by omega⟩
        exact rndZ_exact 1 _ (by have q : (2 : Int) ^ 1 = 2 := rfl; rw [q]; omega) (by have e : 2 ^ (53 + 1) = 18014398509481984 := rfl; omega)

/-- d = 3 -/
theorem two_3 (m B S : Int) (h1 : 4503599627370496 ≤ m.natAbs) (h2 : m.natAbs < 9007199254740992) (h3 : B.natAbs < 9007199254740992) (hS : rndZ (m * 8 + B) = S) : Two (m * 8) B S := by
  have q3 : (2 : Int) ^ 3 = 8 := rfl
  have exA := rndZ_exact 3 (m * 8) (by rw [q3]; omega) (by have e : 2 ^ (53 + 3) = 72057594037927936 := rfl; omega)
  by_cases h : (m * 8 + B).natAbs ≤ 9007199254740992
  · have e := rnd_tiny (m * 8 + B) (by omega)
    rw [hS] at e
    subst e
    have e1 : m * 8 + B - B = m * 8 := by omega
    have e2 : m * 8 + B - m * 8 = B := by omega
    have exB := rnd_tiny B (by omega)
    refine ⟨exA, hS, ?_, by omega, by omega, ?_, ?_⟩
    · rw [e2]; exact exB
    · rw [e1, exA, e2]; exact exB
    · rw [e1, exA]; omega
  · have hc : (18014398509481984 ≤ (m * 8 + B).natAbs ∧ (m * 8 + B).natAbs ≤ 36028797018963968) ∨ (36028797018963968 ≤ (m * 8 + B).natAbs ∧ (m * 8 + B).natAbs ≤ 72057594037927936) ∨ (72057594037927936 ≤ (m * 8 + B).natAbs ∧ (m * 8 + B).natAbs ≤ 144115188075855872) := by omega
    rcases hc with hc | hc | hc
    · have p2 : (2 : Int) ^ 2 = 4 := rfl
      have r := rndZ_in 2 (m * 8 + B) (by have e : 2 ^ (52 + 2) = 18014398509481984 := rfl; omega) (by have e : 2 ^ (53 + 2) = 36028797018963968 := rfl; omega)
      rw [hS, p2] at r
      have exS := rndZ_exact 2 S (by rw [p2]; exact r.1) (by have e : 2 ^ (53 + 2) = 36028797018963968 := rfl; omega)
      have q2a : (2 : Int) ^ 2 = 4 := rfl
      have one := rndZ_exact 2 (S - m * 8) (by rw [q2a]; omega) (by have e : 2 ^ (53 + 2) = 36028797018963968 := rfl; omega)
      by_cases hn : 36028797018963968 ≤ (S - B).natAbs
      · have r2 := rndZ_in 3 (S - B) (by have e : 2 ^ (52 + 3) = 36028797018963968 := rfl; omega) (by have e : 2 ^ (53 + 3) = 72057594037927936 := rfl; omega)
        rw [q3] at r2
        refine ⟨exA, exS, one, by omega, by omega, ?_, by omega⟩
        exact rndZ_exact 2 _ (by rw [q2a]; omega) (by have e : 2 ^ (53 + 2) = 36028797018963968 := rfl; omega)
      · have q2b : (2 : Int) ^ 2 = 4 := rfl
        have r2 := rndZ_in 2 (S - B) (by have e : 2 ^ (52 + 2) = 18014398509481984 := rfl; omega) (by have e : 2 ^ (53 + 2) = 36028797018963968 := rfl; omega)
        rw [q2b] at r2
        refine ⟨exA, exS, one, by omega, by omega, ?_, by omega⟩
        exact rndZ_exact 2 _ (by have q : (2 : Int) ^ 2 = 4 := rfl; rw [q]; omega) (by have e : 2 ^ (53 + 2) = 36028797018963968 := rfl; omega)
    · have p3 : (2 : Int) ^ 3 = 8 := rfl
      have r := rndZ_in 3 (m * 8 + B) (by have e : 2 ^ (52 + 3) = 36028797018963968 := rfl; omega) (by have e : 2 ^ (53 + 3) = 72057594037927936 := rfl; omega)
      rw [hS, p3] at r
      have exS := rndZ_exact 3 S (by rw [p3]; exact r.1) (by have e : 2 ^ (53 + 3) = 72057594037927936 := rfl; omega)
      have q3a : (2 : Int) ^ 3 = 8 := rfl
      have one := rndZ_exact 3 (S - m * 8) (by rw [q3a]; omega) (by have e : 2 ^ (53 + 3) = 72057594037927936 := rfl; omega)
      by_cases hn : 36028797018963968 ≤ (S - B).natAbs
      · have r2 := rndZ_in 3 (S - B) (by have e : 2 ^ (52 + 3) = 36028797018963968 := rfl; omega) (by have e : 2 ^ (53 + 3) = 72057594037927936 := rfl; omega)
        rw [q3] at r2
        refine ⟨exA, exS, one, by omega, by omega, ?_, by omega⟩
        exact rndZ_exact 3 _ (by rw [q3a]; omega) (by have e : 2 ^ (53 + 3) = 72057594037927936 := rfl; omega)
      · have q2b : (2 : Int) ^ 2 = 4 := rfl
        have r2 := rndZ_in 2 (S - B) (by have e : 2 ^ (52 + 2) = 18014398509481984 := rfl; omega) (by have e : 2 ^ (53 + 2) = 36028797018963968 := rfl; omega)
        rw [q2b] at r2
        refine ⟨exA, exS, one, by omega, by omega, ?_, by omega⟩
        exact rndZ_exact 2 _ (by have q : (2 : Int) ^ 2 = 4 := rfl; rw [q]; omega) (by have e : 2 ^ (53 + 2) = 36028797018963968 := rfl; omega)
    · have p4 : (2 : Int) ^ 4 = 16 := rfl
      have r := rndZ_in 4 (m * 8 + B) (by have e : 2 ^ (52 + 4) = 72057594037927936 := rfl; omega) (by have e : 2 ^ (53 + 4) = 144115188075855872 := rfl; omega)
      rw [hS, p4] at r
      have exS := rndZ_exact 4 S (by rw [p4]; exact r.1) (by have e : 2 ^ (53 + 4) = 144115188075855872 := rfl; omega)
      have q3a : (2 : Int) ^ 3 = 8 := rfl
      have one := rndZ_exact 3 (S - m * 8) (by rw [q3a]; omega) (by have e : 2 ^ (53 + 3) = 72057594037927936 := rfl; omega)
      by_cases hn : 36028797018963968 ≤ (S - B).natAbs
      · have r2 := rndZ_in 3 (S - B) (by have e : 2 ^ (52 + 3) = 36028797018963968 := rfl; omega) (by have e : 2 ^ (53 + 3) = 72057594037927936 := rfl; omega)
        rw [q3] at r2
        refine ⟨exA, exS, one, by omega, by omega, ?_, by omega⟩
        exact rndZ_exact 3 _ (by rw [q3a]; omega) (by have e : 2 ^ (53 + 3) = 72057594037927936 := rfl; omega)
      · have q2b : (2 : Int) ^ 2 = 4 := rfl
        have r2 := rndZ_in 2 (S - B) (by have e : 2 ^ (52 + 2) = 18014398509481984 := rfl; omega) (by have e : 2 ^ (53 + 2) = 36028797018963968 := rfl; omega)
        rw [q2b] at r2
        refine ⟨exA, exS, one, by omega, by omega, ?_, by omega⟩
        exact rndZ_exact 2 _ (by have q : (2 : Int) ^ 2 = 4 := rfl; rw [q]; omega) (by have e : 2 ^ (53 + 2) = 36028797018963968 := rfl; omega)

/-- d = 4 -/
theorem two_4 (m B S : Int) (h1 : 4503599627370496 ≤ m.natAbs) (h2 : m.natAbs < 9007199254740992) (h3 : B.natAbs < 9007199254740992) (hS : rndZ (m * 16 + B) = S) : Two (m * 16) B S := by
  have q4 : (2 : Int) ^ 4 = 16 := rfl
  have exA := rndZ_exact 4 (m * 16) (by rw [q4]; omega) (by have e : 2 ^ (53 + 4) = 144115188075855872 := rfl; omega)
  by_cases h : (m * 16 + B).natAbs ≤ 9007199254740992
  · have e := rnd_tiny (m * 16 + B) (by omega)
    rw [hS] at e
    subst e
    have e1 : m * 16 + B - B = m * 16 := by omega
    have e2 : m * 16 + B - m * 16 = B := by omega
    have exB := rnd_tiny B (by omega)
    refine ⟨exA, hS, ?_, by omega, by omega, ?_, ?_⟩
    · rw [e2]; exact exB
    · rw [e1, exA, e2]; exact exB
    · rw [e1, exA]; omega
  · have hc : (36028797018963968 ≤ (m * 16 + B).natAbs ∧ (m * 16 + B).natAbs ≤ 72057594037927936) ∨ (72057594037927936 ≤ (m * 16 + B).natAbs ∧ (m * 16 + B).natAbs ≤ 144115188075855872) ∨ (144115188075855872 ≤ (m * 16 + B).natAbs ∧ (m * 16 + B).natAbs ≤ 288230376151711744) := by omega
    rcases hc with hc | hc | hc
    · have p3 : (2 : Int) ^ 3 = 8 := rfl
      have r := rndZ_in 3 (m * 16 + B) (by have e : 2 ^ (52 + 3) = 36028797018963968 := rfl; omega) (by have e : 2 ^ (53 + 3) = 72057594037927936 := rfl; omega)
      rw [hS, p3] at r
      have exS := rndZ_exact 3 S (by rw [p3]; exact r.1) (by have e : 2 ^ (53 + 3) = 72057594037927936 := rfl; omega)
      have q3a : (2 : Int) ^ 3 = 8 := rfl
      have one := rndZ_exact 3 (S - m * 16) (by rw [q3a]; omega) (by have e : 2 ^ (53 + 3) = 72057594037927936 := rfl; omega)
      by_cases hn : 72057594037927936 ≤ (S - B).natAbs
      · have r2 := rndZ_in 4 (S - B) (by have e : 2 ^ (52 + 4) = 72057594037927936 := rfl; omega) (by have e : 2 ^ (53 + 4) = 144115188075855872 := rfl; omega)
        rw [q4] at r2
        refine ⟨exA, exS, one, by omega, by omega, ?_, by omega⟩
        exact rndZ_exact 3 _ (by rw [q3a]; omega) (by have e : 2 ^ (53 + 3) = 72057594037927936 := rfl; omega)
      · have q3b : (2 : Int) ^ 3 = 8 := rfl
        have r2 := rndZ_in 3 (S - B) (by have e : 2 ^ (52 + 3) = 36028797018963968 := rfl; omega) (by have e : 2 ^ (53 + 3) = 72057594037927936 := rfl; omega)
        rw [q3b] at r2
        refine ⟨exA, exS, one, by omega, by omega, ?_, by omega⟩
        exact rndZ_exact 3 _ (by have q : (2 : Int) ^ 3 = 8 := rfl; rw [q]; omega) (by have e : 2 ^ (53 + 3) = 72057594037927936 := rfl; omega)
    · have p4 : (2 : Int) ^ 4 = 16 := rfl
      have r := rndZ_in 4 (m * 16 + B) (by have e : 2 ^ (52 + 4) = 72057594037927936 := rfl; omega) (by have e : 2 ^ (53 + 4) = 144115188075855872 := rfl; omega)
      rw [hS, p4] at r
      have exS := rndZ_exact 4 S (by rw [p4]; exact r.1) (by have e : 2 ^ (53 + 4) = 144115188075855872 := rfl; omega)
      have q4a : (2 : Int) ^ 4 = 16 := rfl
      have one := rndZ_exact 4 (S - m * 16) (by rw [q4a]; omega) (by have e : 2 ^ (53 + 4) = 144115188075855872 := rfl; omega)
      by_cases hn : 72057594037927936 ≤ (S - B).natAbs
      · have r2 := rndZ_in 4 (S - B) (by have e : 2 ^ (52 + 4) = 72057594037927936 := rfl; omega) (by have e : 2 ^ (53 + 4) = 144115188075855872 := rfl; omega)
        rw [q4] at r2
        refine ⟨exA, exS, one, by omega, by omega, ?_, by omega⟩
        exact rndZ_exact 4 _ (by rw [q4a]; omega) (by have e : 2 ^ (53 + 4) = 144115188075855872 := rfl; omega)
      · have q3b : (2 : Int) ^ 3 = 8 := rfl
        have r2 := rndZ_in 3 (S - B) (by have e : 2 ^ (52 + 3) = 36028797018963968 := rfl; omega) (by have e : 2 ^ (53 + 3) = 72057594037927936 := rfl; omega)
        rw [q3b] at r2
        refine ⟨exA, exS, one, by omega, by omega, ?_, by omega⟩
        exact rndZ_exact 3 _ (by have q : (2 : Int) ^ 3 = 8 := rfl; rw [q]; omega) (by have e : 2 ^ (53 + 3) = 72057594037927936 := rfl; omega)
    · have p5 : (2 : Int) ^ 5 = 32 := rfl
      have r := rndZ_in 5 (m * 16 + B) (by have e : 2 ^ (52 + 5) = 144115188075855872 := rfl; omega) (by have e : 2 ^ (53 + 5) = 288230376151711744 := rfl; omega)
      rw [hS, p5] at r
      have exS := rndZ_exact 5 S (by rw [p5]; exact r.1) (by have e : 2 ^ (53 + 5) = 288230376151711744 := rfl; omega)
      have q4a : (2 : Int) ^ 4 = 16 := rfl
      have one := rndZ_exact 4 (S - m * 16) (by rw [q4a]; omega) (by have e : 2 ^ (53 + 4) = 144115188075855872 := rfl; omega)
      by_cases hn : 72057594037927936 ≤ (S - B).natAbs
      · have r2 := rndZ_in 4 (S - B) (by have e : 2 ^ (52 + 4) = 72057594037927936 := rfl; omega) (by have e : 2 ^ (53 + 4) = 144115188075855872 := rfl; omega)
        rw [q4] at r2
        refine ⟨exA, exS, one, by omega, by omega, ?_, by omega⟩
        exact rndZ_exact 4 _ (by rw [q4a]; omega) (by have e : 2 ^ (53 + 4) = 144115188075855872 := rfl; omega)
      · have q3b : (2 : Int) ^ 3 = 8 := rfl
        have r2 := rndZ_in 3 (S - B) (by have e : 2 ^ (52 + 3) = 36028797018963968 := rfl; omega) (by have e : 2 ^ (53 + 3) = 72057594037927936 := rfl; omega)
        rw [q3b] at r2
        refine ⟨exA, exS, one, by omega, by omega, ?_, by omega⟩
        exact rndZ_exact 3 _ (by have q : (2 : Int) ^ 3 = 8 := rfl; rw [q]; omega) (by have e : 2 ^ (53 + 3) = 72057594037927936 := rfl; omega)

/-- d = 5 -/
theorem two_5 (m B S : Int) (h1 : 4503599627370496 ≤ m.natAbs) (h2 : m.natAbs < 9007199254740992) (h3 : B.natAbs < 9007199254740992) (hS : rndZ (m * 32 + B) = S) : Two (m * 32) B S := by
  have q5 : (2 : Int) ^ 5 = 32 := rfl
  have exA := rndZ_exact 5 (m * 32) (by rw [q5]; omega) (by have e : 2 ^ (53 + 5) = 288230376151711744 := rfl; omega)
  by_cases h : (m * 32 + B).natAbs ≤ 9007199254740992
  · have e := rnd_tiny (m * 32 + B) (by omega)
    rw [hS] at e
    subst e
    have e1 : m * 32 + B - B = m * 32 := by omega
    have e2 : m * 32 + B - m * 32 = B := by omega
    have exB := rnd_tiny B (by omega)
    refine ⟨exA, hS, ?_, by omega, by omega, ?_, ?_⟩
    · rw [e2]; exact exB
    · rw [e1, exA, e2]; exact exB
    · rw [e1, exA]; omega
  · have hc : (72057594037927936 ≤ (m * 32 + B).natAbs ∧ (m * 32 + B).natAbs ≤ 144115188075855872) ∨ (144115188075855872 ≤ (m * 32 + B).natAbs ∧ (m * 32 + B).natAbs ≤ 288230376151711744) ∨ (288230376151711744 ≤ (m * 32 + B).natAbs ∧ (m * 32 + B).natAbs ≤ 576460752303423488) := by omega
    rcases hc with hc | hc | hc
    · have p4 : (2 : Int) ^ 4 = 16 := rfl
      have r := rndZ_in 4 (m * 32 + B) (by have e : 2 ^ (52 + 4) = 72057594037927936 := rfl; omega) (by have e : 2 ^ (53 + 4) = 144115188075855872 := rfl; omega)
      rw [hS, p4] at r
      have exS := rndZ_exact 4 S (by rw [p4]; exact r.1) (by have e : 2 ^ (53 + 4) = 144115188075855872 := rfl; omega)
      have q4a : (2 : Int) ^ 4 = 16 := rfl
      have one := rndZ_exact 4 (S - m * 32) (by rw [q4a]; omega) (by have e : 2 ^ (53 + 4) = 144115188075855872 := rfl; omega)
      by_cases hn : 144115188075855872 ≤ (S - B).natAbs
      · have r2 := rndZ_in 5 (S - B) (by have e : 2 ^ (52 + 5) = 144115188075855872 := rfl; omega) (by have e : 2 ^ (53 + 5) = 288230376151711744 := rfl; omega)
        rw [q5] at r2
        refine ⟨exA, exS, one, by omega, by omega, ?_, by omega⟩
        exact rndZ_exact 4 _ (by rw [q4a]; omega) (by have e : 2 ^ (53 + 4) = 144115188075855872 := rfl; omega)
      · have q4b : (2 : Int) ^ 4 = 16 := rfl
        have r2 := rndZ_in 4 (S - B) (by have e : 2 ^ (52 + 4) = 72057594037927936 := rfl; omega) (by have e : 2 ^ (53 + 4) = 144115188075855872 := rfl; omega)
        rw [q4b] at r2
        refine ⟨exA, exS, one, by omega, by omega, ?_, by omega⟩
        exact rndZ_exact 4 _ (by have q : (2 : Int) ^ 4 = 16 := rfl; rw [q]; omega) (by have e : 2 ^ (53 + 4) = 144115188075855872 := rfl; omega)
    · have p5 : (2 : Int) ^ 5 = 32 := rfl
      have r := rndZ_in 5 (m * 32 + B) (by have e : 2 ^ (52 + 5) = 144115188075855872 := rfl; omega) (by have e : 2 ^ (53 + 5) = 288230376151711744 := rfl; omega)
      rw [hS, p5] at r
      have exS := rndZ_exact 5 S (by rw [p5]; exact r.1) (by have e : 2 ^ (53 + 5) = 288230376151711744 := rfl; omega)
      have q5a : (2 : Int) ^ 5 = 32 := rfl
      have one := rndZ_exact 5 (S - m * 32) (by rw [q5a]; omega) (by have e : 2 ^ (53 + 5) = 288230376151711744 := rfl; omega)
      by_cases hn : 144115188075855872 ≤ (S - B).natAbs
      · have r2 := rndZ_in 5 (S - B) (by have e : 2 ^ (52 + 5) = 144115188075855872 := rfl; omega) (by have e : 2 ^ (53 + 5) = 288230376151711744 := rfl; omega)
        rw [q5] at r2
        refine ⟨exA, exS, one, by omega, by omega, ?_, by omega⟩
        exact rndZ_exact 5 _ (by rw [q5a]; omega) (by have e : 2 ^ (53 + 5) = 288230376151711744 := rfl; omega)
      · have q4b : (2 : Int) ^ 4 = 16 := rfl
        have r2 := rndZ_in 4 (S - B) (by have e : 2 ^ (52 + 4) = 72057594037927936 := rfl; omega) (by have e : 2 ^ (53 + 4) = 144115188075855872 := rfl; omega)
        rw [q4b] at r2
        refine ⟨exA, exS, one, by omega, by omega, ?_, by omega⟩
        exact rndZ_exact 4 _ (by have q : (2 : Int) ^ 4 = 16 := rfl; rw [q]; omega) (by have e : 2 ^ (53 + 4) = 144115188075855872 := rfl; omega)
    · have p6 : (2 : Int) ^ 6 = 64 := rfl
      have r := rndZ_in 6 (m * 32 + B) (by have e : 2 ^ (52 + 6) = 288230376151711744 := rfl; omega) (by have e : 2 ^ (53 + 6) = 576460752303423488 := rfl; omega)
      rw [hS, p6] at r
      have exS := rndZ_exact 6 S (by rw [p6]; exact r.1) (by have e : 2 ^ (53 + 6) = 576460752303423488 := rfl; omega)
      have q5a : (2 : Int) ^ 5 = 32 := rfl
      have one := rndZ_exact 5 (S - m * 32) (by rw [q5a]; omega) (by have e : 2 ^ (53 + 5) = 288230376151711744 := rfl; omega)
      by_cases hn : 144115188075855872 ≤ (S - B).natAbs
      · have r2 := rndZ_in 5 (S - B) (by have e : 2 ^ (52 + 5) = 144115188075855872 := rfl; omega) (by have e : 2 ^ (53 + 5) = 288230376151711744 := rfl; omega)
        rw [q5] at r2
        refine ⟨exA, exS, one, by omega, by omega, ?_, by omega⟩
        exact rndZ_exact 5 _ (by rw [q5a]; omega) (by have e : 2 ^ (53 + 5) = 288230376151711744 := rfl; omega)
      · have q4b : (2 : Int) ^ 4 = 16 := rfl
        have r2 := rndZ_in 4 (S - B) (by have e : 2 ^ (52 + 4) = 72057594037927936 := rfl; omega) (by have e : 2 ^ (53 + 4) = 144115188075855872 := rfl; omega)
        rw [q4b] at r2
        refine ⟨exA, exS, one, by omega, by omega, ?_, by omega⟩
        exact rndZ_exact 4 _ (by have q : (2 : Int) ^ 4 = 16 := rfl; rw [q]; omega) (by have e : 2 ^ (53 + 4) = 144115188075855872 := rfl; omega)

/-- d = 6 -/
theorem two_6 (m B S : Int) (h1 : 4503599627370496 ≤ m.natAbs) (h2 : m.natAbs < 9007199254740992) (h3 : B.natAbs < 9007199254740992) (hS : rndZ (m * 64 + B) = S) : Two (m * 64) B S := by
  have q6 : (2 : Int) ^ 6 = 64 := rfl
  have exA := rndZ_exact 6 (m * 64) (by rw [q6]; omega) (by have e : 2 ^ (53 + 6) = 576460752303423488 := rfl; omega)
  by_cases h : (m * 64 + B).natAbs ≤ 9007199254740992
  · have e := rnd_tiny (m * 64 + B) (by omega)
    rw [hS] at e
    subst e
    have e1 : m * 64 + B - B = m * 64 := by omega
    have e2 : m * 64 + B - m * 64 = B := by omega
    have exB := rnd_tiny B (by omega)
    refine ⟨exA, hS, ?_, by omega, by omega, ?_, ?_⟩
    · rw [e2]; exact exB
    · rw [e1, exA, e2]; exact exB
    · rw [e1, exA]; omega
  · have hc : (144115188075855872 ≤ (m * 64 + B).natAbs ∧ (m * 64 + B).natAbs ≤ 288230376151711744) ∨ (288230376151711744 ≤ (m * 64 + B).natAbs ∧ (m * 64 + B).natAbs ≤ 576460752303423488) ∨ (576460752303423488 ≤ (m * 64 + B).natAbs ∧ (m * 64 + B).natAbs ≤ 1152921504606846976) := by omega
    rcases hc with hc | hc | hc
    · have p5 : (2 : Int) ^ 5 = 32 := rfl
      have r := rndZ_in 5 (m * 64 + B) (by have e : 2 ^ (52 + 5) = 144115188075855872 := rfl; omega) (by have e : 2 ^ (53 + 5) = 288230376151711744 := rfl; omega)
      rw [hS, p5] at r
      have exS := rndZ_exact 5 S (by rw [p5]; exact r.1) (by have e : 2 ^ (53 + 5) = 288230376151711744 := rfl; omega)
      have q5a : (2 : Int) ^ 5 = 32 := rfl
      have one := rndZ_exact 5 (S - m * 64) (by rw [q5a]; omega) (by have e : 2 ^ (53 + 5) = 288230376151711744 := rfl; omega)
      by_cases hn : 288230376151711744 ≤ (S - B).natAbs
      · have r2 := rndZ_in 6 (S - B) (by have e : 2 ^ (52 + 6) = 288230376151711744 := rfl; omega) (by have e : 2 ^ (53 + 6) = 576460752303423488 := rfl; omega)
        rw [q6] at r2
        refine ⟨exA, exS, one, by omega, by omega, ?_, by omega⟩
        exact rndZ_exact 5 _ (by rw [q5a]; omega) (by have e : 2 ^ (53 + 5) = 288230376151711744 := rfl; omega)
      · have q5b : (2 : Int) ^ 5 = 32 := rfl
        have r2 := rndZ_in 5 (S - B) (by have e : 2 ^ (52 + 5) = 144115188075855872 := rfl; omega) (by have e : 2 ^ (53 + 5) = 288230376151711744 := rfl; omega)
        rw [q5b] at r2
        refine ⟨exA, exS, one, by omega, by omega, ?_, by omega⟩
        exact rndZ_exact 5 _ (by have q : (2 : Int) ^ 5 = 32 := rfl; rw [q]; omega) (by have e : 2 ^ (53 + 5) = 288230376151711744 := rfl; omega)
    · have p6 : (2 : Int) ^ 6 = 64 := rfl
      have r := rndZ_in 6 (m * 64 + B) (by have e : 2 ^ (52 + 6) = 288230376151711744 := rfl; omega) (by have e : 2 ^ (53 + 6) = 576460752303423488 := rfl; omega)
      rw [hS, p6] at r
      have exS := rndZ_exact 6 S (by rw [p6]; exact r.1) (by have e : 2 ^ (53 + 6) = 576460752303423488 := rfl; omega)
      have q6a : (2 : Int) ^ 6 = 64 := rfl
      have one := rndZ_exact 6 (S - m * 64) (by rw [q6a]; omega) (by have e : 2 ^ (53 + 6) = 576460752303423488 := rfl; omega)
      by_cases hn : 288230376151711744 ≤ (S - B).natAbs
      · have r2 := rndZ_in 6 (S - B) (by have e : 2 ^ (52 + 6) = 288230376151711744 := rfl; omega) (by have e : 2 ^ (53 + 6) = 576460752303423488 := rfl; omega)
        rw [q6] at r2
        refine ⟨exA, exS, one, by omega, by omega, ?_, by omega⟩
        exact rndZ_exact 6 _ (by rw [q6a]; omega) (by have e : 2 ^ (53 + 6) = 576460752303423488 := rfl; omega)
      · have q5b : (2 : Int) ^ 5 = 32 := rfl
        have r2 := rndZ_in 5 (S - B) (by have e : 2 ^ (52 + 5) = 144115188075855872 := rfl; omega) (by have e : 2 ^ (53 + 5) = 288230376151711744 := rfl; omega)
        rw [q5b] at r2
        refine ⟨exA, exS, one, by omega, by omega, ?_, by omega⟩
        exact rndZ_exact 5 _ (by have q : (2 : Int) ^ 5 = 32 := rfl; rw [q]; omega) (by have e : 2 ^ (53 + 5) = 288230376151711744 := rfl; omega)
    · have p7 : (2 : Int) ^ 7 = 128 := rfl
      have r := rndZ_in 7 (m * 64 + B) (by have e : 2 ^ (52 + 7) = 576460752303423488 := rfl; omega) (by have e : 2 ^ (53 + 7) = 1152921504606846976 := rfl; omega)
      rw [hS, p7] at r
      have exS := rndZ_exact 7 S (by rw [p7]; exact r.1) (by have e : 2 ^ (53 + 7) = 1152921504606846976 := rfl; omega)
      have q6a : (2 : Int) ^ 6 = 64 := rfl
      have one := rndZ_exact 6 (S - m * 64) (by rw [q6a]; omega) (by have e : 2 ^ (53 + 6) = 576460752303423488 := rfl; omega)
      by_cases hn : 288230376151711744 ≤ (S - B).natAbs
      · have r2 := rndZ_in 6 (S - B) (by have e : 2 ^ (52 + 6) = 288230376151711744 := rfl; omega) (by have e : 2 ^ (53 + 6) = 576460752303423488 := rfl; omega)
        rw [q6] at r2
        refine ⟨exA, exS, one, by omega, by omega, ?_, by omega⟩
        exact rndZ_exact 6 _ (by rw [q6a]; omega) (by have e : 2 ^ (53 + 6) = 576460752303423488 := rfl; omega)
      · have q5b : (2 : Int) ^ 5 = 32 := rfl
        have r2 := rndZ_in 5 (S - B) (by have e : 2 ^ (52 + 5) = 144115188075855872 := rfl; omega) (by have e : 2 ^ (53 + 5) = 288230376151711744 := rfl; omega)
        rw [q5b] at r2
        refine ⟨exA, exS, one, by omega, by omega, ?_, by omega⟩
        exact rndZ_exact 5 _ (by have q : (2 : Int) ^ 5 = 32 := rfl; rw [q]; omega) (by have e : 2 ^ (53 + 5) = 288230376151711744 := rfl; omega)

/-- d = 7 -/
theorem two_7 (m B S : Int) (h1 : 4503599627370496 ≤ m.natAbs) (h2 : m.natAbs < 9007199254740992) (h3 : B.natAbs < 9007199254740992) (hS : rndZ (m * 128 + B) = S) : Two (m * 128) B S := by
  have q7 : (2 : Int) ^ 7 = 128 := rfl
  have exA := rndZ_exact 7 (m * 128) (by rw [q7]; omega) (by have e : 2 ^ (53 + 7) = 1152921504606846976 := rfl; omega)
  by_cases h : (m * 128 + B).natAbs ≤ 9007199254740992
  · have e := rnd_tiny (m * 128 + B) (by omega)
    rw [hS] at e
    subst e
    have e1 : m * 128 + B - B = m * 128 := by omega
    have e2 : m * 128 + B - m * 128 = B := by omega
    have exB := rnd_tiny B (by omega)
    refine ⟨exA, hS, ?_, by omega, by omega, ?_, ?_⟩
    · rw [e2]; exact exB
    · rw [e1, exA, e2]; exact exB
    · rw [e1, exA]; omega
  · have hc : (288230376151711744 ≤ (m * 128 + B).natAbs ∧ (m * 128 + B).natAbs ≤ 576460752303423488) ∨ (576460752303423488 ≤ (m * 128 + B).natAbs ∧ (m * 128 + B).natAbs ≤ 1152921504606846976) ∨ (1152921504606846976 ≤ (m * 128 + B).natAbs ∧ (m * 128 + B).natAbs ≤ 2305843009213693952) := by omega
    rcases hc with hc | hc | hc
    · have p6 : (2 : Int) ^ 6 = 64 := rfl
      have r := rndZ_in 6 (m * 128 + B) (by have e : 2 ^ (52 + 6) = 288230376151711744 := rfl; omega) (by have e : 2 ^ (53 + 6) = 576460752303423488 := rfl; omega)
      rw [hS, p6] at r
      have exS := rndZ_exact 6 S (by rw [p6]; exact r.1) (by have e : 2 ^ (53 + 6) = 576460752303423488 := rfl; omega)
      have q6a : (2 : Int) ^ 6 = 64 := rfl
      have one := rndZ_exact 6 (S - m * 128) (by rw [q6a]; omega) (by have e : 2 ^ (53 + 6) = 576460752303423488 := rfl; omega)
      by_cases hn : 576460752303423488 ≤ (S - B).natAbs
      · have r2 := rndZ_in 7 (S - B) (by have e : 2 ^ (52 + 7) = 576460752303423488 := rfl; omega) (by have e : 2 ^ (53 + 7) = 1152921504606846976 := rfl; omega)
        rw [q7] at r2
        refine ⟨exA, exS, one, by omega, by omega, ?_, by omega⟩
        exact rndZ_exact 6 _ (by rw [q6a]; omega) (by have e : 2 ^ (53 + 6) = 576460752303423488 := rfl; omega)
      · have q6b : (2 : Int) ^ 6 = 64 := rfl
        have r2 := rndZ_in 6 (S - B) (by have e : 2 ^ (52 + 6) = 288230376151711744 := rfl; omega) (by have e : 2 ^ (53 + 6) = 576460752303423488 := rfl; omega)
        rw [q6b] at r2
        refine ⟨exA, exS, one, by omega, by omega, ?_, by omega⟩
        exact rndZ_exact 6 _ (by have q : (2 : Int) ^ 6 = 64 := rfl; rw [q]; omega) (by have e : 2 ^ (53 + 6) = 576460752303423488 := rfl; omega)
    · have p7 : (2 : Int) ^ 7 = 128 := rfl
      have r := rndZ_in 7 (m * 128 + B) (by have e : 2 ^ (52 + 7) = 576460752303423488 := rfl; omega) (by have e : 2 ^ (53 + 7) = 1152921504606846976 := rfl; omega)
      rw [hS, p7] at r
      have exS := rndZ_exact 7 S (by rw [p7]; exact r.1) (by have e : 2 ^ (53 + 7) = 1152921504606846976 := rfl; omega)
      have q7a : (2 : Int) ^ 7 = 128 := rfl
      have one := rndZ_exact 7 (S - m * 128) (by rw [q7a]; omega) (by have e : 2 ^ (53 + 7) = 1152921504606846976 := rfl; omega)
      by_cases hn : 576460752303423488 ≤ (S - B).natAbs
      · have r2 := rndZ_in 7 (S - B) (by have e : 2 ^ (52 + 7) = 576460752303423488 := rfl; omega) (by have e : 2 ^ (53 + 7) = 1152921504606846976 := rfl; omega)
        rw [q7] at r2
        refine ⟨exA, exS, one, by omega, by omega, ?_, by omega⟩
        exact rndZ_exact 7 _ (by rw [q7a]; omega) (by have e : 2 ^ (53 + 7) = 1152921504606846976 := rfl; omega)
      · have q6b : (2 : Int) ^ 6 = 64 := rfl
        have r2 := rndZ_in 6 (S - B) (by have e : 2 ^ (52 + 6) = 288230376151711744 := rfl; omega) (by have e : 2 ^ (53 + 6) = 576460752303423488 := rfl; omega)
        rw [q6b] at r2
        refine ⟨exA, exS, one, by omega, by omega, ?_, by omega⟩
        exact rndZ_exact 6 _ (by have q : (2 : Int) ^ 6 = 64 := rfl; rw [q]; omega) (by have e : 2 ^ (53 + 6) = 576460752303423488 := rfl; omega)
    · have p8 : (2 : Int) ^ 8 = 256 := rfl
      have r := rndZ_in 8 (m * 128 + B) (by have e : 2 ^ (52 + 8) = 1152921504606846976 := rfl; omega) (by have e : 2 ^ (53 + 8) = 2305843009213693952 := rfl; omega)
      rw [hS, p8] at r
      have exS := rndZ_exact 8 S (by rw [p8]; exact r.1) (by have e : 2 ^ (53 + 8) = 2305843009213693952 := rfl; omega)
      have q7a : (2 : Int) ^ 7 = 128 := rfl
      have one := rndZ_exact 7 (S - m * 128) (by rw [q7a]; omega) (by have e : 2 ^ (53 + 7) = 1152921504606846976 := rfl; omega)
      by_cases hn : 576460752303423488 ≤ (S - B).natAbs
      · have r2 := rndZ_in 7 (S - B) (by have e : 2 ^ (52 + 7) = 576460752303423488 := rfl; omega) (by have e : 2 ^ (53 + 7) = 1152921504606846976 := rfl; omega)
        rw [q7] at r2
        refine ⟨exA, exS, one, by omega, by omega, ?_, by omega⟩
        exact rndZ_exact 7 _ (by rw [q7a]; omega) (by have e : 2 ^ (53 + 7) = 1152921504606846976 := rfl; omega)
      · have q6b : (2 : Int) ^ 6 = 64 := rfl
        have r2 := rndZ_in 6 (S - B) (by have e : 2 ^ (52 + 6) = 288230376151711744 := rfl; omega) (by have e : 2 ^ (53 + 6) = 576460752303423488 := rfl; omega)
        rw [q6b] at r2
        refine ⟨exA, exS, one, by omega, by omega, ?_, by omega⟩
        exact rndZ_exact 6 _ (by have q : (2 : Int) ^ 6 = 64 := rfl; rw [q]; omega) (by have e : 2 ^ (53 + 6) = 576460752303423488 := rfl; omega)

/-- d = 8 -/
theorem two_8 (m B S : Int) (h1 : 4503599627370496 ≤ m.natAbs) (h2 : m.natAbs < 9007199254740992) (h3 : B.natAbs < 9007199254740992) (hS : rndZ (m * 256 + B) = S) : Two (m * 256) B S := by
  have q8 : (2 : Int) ^ 8 = 256 := rfl
  have exA := rndZ_exact 8 (m * 256) (by rw [q8]; omega) (by have e : 2 ^ (53 + 8) = 2305843009213693952 := rfl; omega)
  by_cases h : (m * 256 + B).natAbs ≤ 9007199254740992
  · have e := rnd_tiny (m * 256 + B) (by omega)
    rw [hS] at e
    subst e
    have e1 : m * 256 + B - B = m * 256 := by omega
    have e2 : m * 256 + B - m * 256 = B := by omega
    have exB := rnd_tiny B (by omega)
    refine ⟨exA, hS, ?_, by omega, by omega, ?_, ?_⟩
    · rw [e2]; exact exB
    · rw [e1, exA, e2]; exact exB
    · rw [e1, exA]; omega
  · have hc : (576460752303423488 ≤ (m * 256 + B).natAbs ∧ (m * 256 + B).natAbs ≤ 1152921504606846976) ∨ (1152921504606846976 ≤ (m * 256 + B).natAbs ∧ (m * 256 + B).natAbs ≤ 2305843009213693952) ∨ (2305843009213693952 ≤ (m * 256 + B).natAbs ∧ (m * 256 + B).natAbs ≤ 4611686018427387904) := by omega
    rcases hc with hc | hc | hc
    · have p7 : (2 : Int) ^ 7 = 128 := rfl
      have r := rndZ_in 7 (m * 256 + B) (by have e : 2 ^ (52 + 7) = 576460752303423488 := rfl; omega) (by have e : 2 ^ (53 + 7) = 1152921504606846976 := rfl; omega)
      rw [hS, p7] at r
      have exS := rndZ_exact 7 S (by rw [p7]; exact r.1) (by have e : 2 ^ (53 + 7) = 1152921504606846976 := rfl; omega)
      have q7a : (2 : Int) ^ 7 = 128 := rfl
      have one := rndZ_exact 7 (S - m * 256) (by rw [q7a]; omega) (by have e : 2 ^ (53 + 7) = 1152921504606846976 := rfl; omega)
      by_cases hn : 1152921504606846976 ≤ (S - B).natAbs
      · have r2 := rndZ_in 8 (S - B) (by have e : 2 ^ (52 + 8) = 1152921504606846976 := rfl; omega) (by have e : 2 ^ (53 + 8) = 2305843009213693952 := rfl; omega)
        rw [q8] at r2
        refine ⟨exA, exS, one, by omega, by omega, ?_, by omega⟩
        exact rndZ_exact 7 _ (by rw [q7a]; omega) (by have e : 2 ^ (53 + 7) = 1152921504606846976 := rfl; omega)
      · have q7b : (2 : Int) ^ 7 = 128 := rfl
        have r2 := rndZ_in 7 (S - B) (by have e : 2 ^ (52 + 7) = 576460752303423488 := rfl; omega) (by have e : 2 ^ (53 + 7) = 1152921504606846976 := rfl; omega)
        rw [q7b] at r2
        refine ⟨exA, exS, one, by omega, by omega, ?_, by omega⟩
        exact rndZ_exact 7 _ (by have q : (2 : Int) ^ 7 = 128 := rfl; rw [q]; omega) (by have e : 2 ^ (53 + 7) = 1152921504606846976 := rfl; omega)
    · have p8 : (2 : Int) ^ 8 = 256 := rfl
      have r := rndZ_in 8 (m * 256 + B) (by have e : 2 ^ (52 + 8) = 1152921504606846976 := rfl; omega) (by have e : 2 ^ (53 + 8) = 2305843009213693952 := rfl; omega)
      rw [hS, p8] at r
      have exS := rndZ_exact 8 S (by rw [p8]; exact r.1) (by have e : 2 ^ (53 + 8) = 2305843009213693952 := rfl; omega)
      have q8a : (2 : Int) ^ 8 = 256 := rfl
      have one := rndZ_exact 8 (S - m * 256) (by rw [q8a]; omega) (by have e : 2 ^ (53 + 8) = 2305843009213693952 := rfl; omega)
      by_cases hn : 1152921504606846976 ≤ (S - B).natAbs
      · have r2 := rndZ_in 8 (S - B) (by have e : 2 ^ (52 + 8) = 1152921504606846976 := rfl; omega) (by have e : 2 ^ (53 + 8) = 2305843009213693952 := rfl; omega)
        rw [q8] at r2
        refine ⟨exA, exS, one, by omega, by omega, ?_, by omega⟩
        exact rndZ_exact 8 _ (by rw [q8a]; omega) (by have e : 2 ^ (53 + 8) = 2305843009213693952 := rfl; omega)
      · have q7b : (2 : Int) ^ 7 = 128 := rfl
        have r2 := rndZ_in 7 (S - B) (by have e : 2 ^ (52 + 7) = 576460752303423488 := rfl; omega) (by have e : 2 ^ (53 + 7) = 1152921504606846976 := rfl; omega)
        rw [q7b] at r2
        refine ⟨exA, exS, one, by omega, by omega, ?_, by omega⟩
        exact rndZ_exact 7 _ (by have q : (2 : Int) ^ 7 = 128 := rfl; rw [q]; omega) (by have e : 2 ^ (53 + 7) = 1152921504606846976 := rfl; omega)
    · have p9 : (2 : Int) ^ 9 = 512 := rfl
      have r := rndZ_in 9 (m * 256 + B) (by have e : 2 ^ (52 + 9) = 2305843009213693952 := rfl; omega) (by have e : 2 ^ (53 + 9) = 4611686018427387904 := rfl; omega)
      rw [hS, p9] at r
      have exS := rndZ_exact 9 S (by rw [p9]; exact r.1) (by have e : 2 ^ (53 + 9) = 4611686018427387904 := rfl; omega)
      have q8a : (2 : Int) ^ 8 = 256 := rfl
      have one := rndZ_exact 8 (S - m * 256) (by rw [q8a]; omega) (by have e : 2 ^ (53 + 8) = 2305843009213693952 := rfl; omega)
      by_cases hn : 1152921504606846976 ≤ (S - B).natAbs
      · have r2 := rndZ_in 8 (S - B) (by have e : 2 ^ (52 + 8) = 1152921504606846976 := rfl; omega) (by have e : 2 ^ (53 + 8) = 2305843009213693952 := rfl; omega)
        rw [q8] at r2
        refine ⟨exA, exS, one, by omega, by omega, ?_, by omega⟩
        exact rndZ_exact 8 _ (by rw [q8a]; omega) (by have e : 2 ^ (53 + 8) = 2305843009213693952 := rfl; omega)
      · have q7b : (2 : Int) ^ 7 = 128 := rfl
        have r2 := rndZ_in 7 (S - B) (by have e : 2 ^ (52 + 7) = 576460752303423488 := rfl; omega) (by have e : 2 ^ (53 + 7) = 1152921504606846976 := rfl; omega)
        rw [q7b] at r2
        refine ⟨exA, exS, one, by omega, by omega, ?_, by omega⟩
        exact rndZ_exact 7 _ (by have q : (2 : Int) ^ 7 = 128 := rfl; rw [q]; omega) (by have e : 2 ^ (53 + 7) = 1152921504606846976 := rfl; omega)

/-- d = 9 -/
theorem two_9 (m B S : Int) (h1 : 4503599627370496 ≤ m.natAbs) (h2 : m.natAbs < 9007199254740992) (h3 : B.natAbs < 9007199254740992) (hS : rndZ (m * 512 + B) = S) : Two (m * 512) B S := by
  have q9 : (2 : Int) ^ 9 = 512 := rfl
  have exA := rndZ_exact 9 (m * 512) (by rw [q9]; omega) (by have e : 2 ^ (53 + 9) = 4611686018427387904 := rfl; omega)
  by_cases h : (m * 512 + B).natAbs ≤ 9007199254740992
  · have e := rnd_tiny (m * 512 + B) (by omega)
    rw [hS] at e
    subst e
    have e1 : m * 512 + B - B = m * 512 := by omega
    have e2 : m * 512 + B - m * 512 = B := by omega
    have exB := rnd_tiny B (by omega)
    refine ⟨exA, hS, ?_, by omega, by omega, ?_, ?_⟩
    · rw [e2]; exact exB
    · rw [e1, exA, e2]; exact exB
    · rw [e1, exA]; omega
  · have hc : (1152921504606846976 ≤ (m * 512 + B).natAbs ∧ (m * 512 + B).natAbs ≤ 2305843009213693952) ∨ (2305843009213693952 ≤ (m * 512 + B).natAbs ∧ (m * 512 + B).natAbs ≤ 4611686018427387904) ∨ (4611686018427387904 ≤ (m * 512 + B).natAbs ∧ (m * 512 + B).natAbs ≤ 9223372036854775808) := by omega
    rcases hc with hc | hc | hc
    · have p8 : (2 : Int) ^ 8 = 256 := rfl
      have r := rndZ_in 8 (m * 512 + B) (by have e : 2 ^ (52 + 8) = 1152921504606846976 := rfl; omega) (by have e : 2 ^ (53 + 8) = 2305843009213693952 := rfl; omega)
      rw [hS, p8] at r
      have exS := rndZ_exact 8 S (by rw [p8]; exact r.1) (by have e : 2 ^ (53 + 8) = 2305843009213693952 := rfl; omega)
      have q8a : (2 : Int) ^ 8 = 256 := rfl
      have one := rndZ_exact 8 (S - m * 512) (by rw [q8a]; omega) (by have e : 2 ^ (53 + 8) = 2305843009213693952 := rfl; omega)
      by_cases hn : 2305843009213693952 ≤ (S - B).natAbs
      · have r2 := rndZ_in 9 (S - B) (by have e : 2 ^ (52 + 9) = 2305843009213693952 := rfl; omega) (by have e : 2 ^ (53 + 9) = 4611686018427387904 := rfl; omega)
        rw [q9] at r2
        refine ⟨exA, exS, one, by omega, by omega, ?_, by omega⟩
        exact rndZ_exact 8 _ (by rw [q8a]; omega) (by have e : 2 ^ (53 + 8) = 2305843009213693952 := rfl; omega)
      · have q8b : (2 : Int) ^ 8 = 256 := rfl
        have r2 := rndZ_in 8 (S - B) (by have e : 2 ^ (52 + 8) = 1152921504606846976 := rfl; omega) (by have e : 2 ^ (53 + 8) = 2305843009213693952 := rfl; omega)
        rw [q8b] at r2
        refine ⟨exA, exS, one, by omega, by omega, ?_, by omega⟩
        exact rndZ_exact 8 _ (by have q : (2 : Int) ^ 8 = 256 := rfl; rw [q]; omega) (by have e : 2 ^ (53 + 8) = 2305843009213693952 := rfl; omega)
    · have p9 : (2 : Int) ^ 9 = 512 := rfl
      have r := rndZ_in 9 (m * 512 + B) (by have e : 2 ^ (52 + 9) = 2305843009213693952 := rfl; omega) (by have e : 2 ^ (53 + 9) = 4611686018427387904 := rfl; omega)
      rw [hS, p9] at r
      have exS := rndZ_exact 9 S (by rw [p9]; exact r.1) (by have e : 2 ^ (53 + 9) = 4611686018427387904 := rfl; omega)
      have q9a : (2 : Int) ^ 9 = 512 := rfl
      have one := rndZ_exact 9 (S - m * 512) (by rw [q9a]; omega) (by have e : 2 ^ (53 + 9) = 4611686018427387904 := rfl; omega)
      by_cases hn : 2305843009213693952 ≤ (S - B).natAbs
      · have r2 := rndZ_in 9 (S - B) (by have e : 2 ^ (52 + 9) = 2305843009213693952 := rfl; omega) (by have e : 2 ^ (53 + 9) = 4611686018427387904 := rfl; omega)
        rw [q9] at r2
        refine ⟨exA, exS, one, by omega, by omega, ?_, by omega⟩
        exact rndZ_exact 9 _ (by rw [q9a]; omega) (by have e : 2 ^ (53 + 9) = 4611686018427387904 := rfl; omega)
      · have q8b : (2 : Int) ^ 8 = 256 := rfl
        have r2 := rndZ_in 8 (S - B) (by have e : 2 ^ (52 + 8) = 1152921504606846976 := rfl; omega) (by have e : 2 ^ (53 + 8) = 2305843009213693952 := rfl; omega)
        rw [q8b] at r2
        refine ⟨exA, exS, one, by omega, by omega, ?_, by omega⟩
        exact rndZ_exact 8 _ (by have q : (2 : Int) ^ 8 = 256 := rfl; rw [q]; omega) (by have e : 2 ^ (53 + 8) = 2305843009213693952 := rfl; omega)
    · have p10 : (2 : Int) ^ 10 = 1024 := rfl
      have r := rndZ_in 10 (m * 512 + B) (by have e : 2 ^ (52 + 10) = 4611686018427387904 := rfl; omega) (by have e : 2 ^ (53 + 10) = 9223372036854775808 := rfl; omega)
      rw [hS, p10] at r
      have exS := rndZ_exact 10 S (by rw [p10]; exact r.1) (by have e : 2 ^ (53 + 10) = 9223372036854775808 := rfl; omega)
      have q9a : (2 : Int) ^ 9 = 512 := rfl
      have one := rndZ_exact 9 (S - m * 512) (by rw [q9a]; omega) (by have e : 2 ^ (53 + 9) = 4611686018427387904 := rfl; omega)
      by_cases hn : 2305843009213693952 ≤ (S - B).natAbs
      · have r2 := rndZ_in 9 (S - B) (by have e : 2 ^ (52 + 9) = 2305843009213693952 := rfl; omega) (by have e : 2 ^ (53 + 9) = 4611686018427387904 := rfl; omega)
        rw [q9] at r2
        refine ⟨exA, exS, one, by omega, by omega, ?_, by omega⟩
        exact rndZ_exact 9 _ (by rw [q9a]; omega) (by have e : 2 ^ (53 + 9) = 4611686018427387904 := rfl; omega)
      · have q8b : (2 : Int) ^ 8 = 256 := rfl
        have r2 := rndZ_in 8 (S - B) (by have e : 2 ^ (52 + 8) = 1152921504606846976 := rfl; omega) (by have e : 2 ^ (53 + 8) = 2305843009213693952 := rfl; omega)
        rw [q8b] at r2
        refine ⟨exA, exS, one, by omega, by omega, ?_, by omega⟩
        exact rndZ_exact 8 _ (by have q : (2 : Int) ^ 8 = 256 := rfl; rw [q]; omega) (by have e : 2 ^ (53 + 8) = 2305843009213693952 := rfl; omega)

/-- whatever d -/
theorem two_any (d : Nat) (hd : d ≤ 9) (m B S : Int) (h1 : 4503599627370496 ≤ m.natAbs) (h2 : m.natAbs < 9007199254740992) (h3 : B.natAbs < 9007199254740992) (hS : rndZ (m * 2 ^ d + B) = S) : Two (m * 2 ^ d) B S := by
  rcases (show d = 0 ∨ d = 1 ∨ d = 2 ∨ d = 3 ∨ d = 4 ∨ d = 5 ∨ d = 6 ∨ d = 7 ∨ d = 8 ∨ d = 9 from by omega) with rfl | rfl | rfl | rfl | rfl | rfl | rfl | rfl | rfl | rfl
  · rw [Int.pow_zero, Int.mul_one] at hS ⊢; exact two_0 m B S h1 h2 h3 hS
  · rw [show (2 : Int) ^ 1 = 2 from rfl] at hS ⊢; exact two_1 m B S h1 h2 h3 hS
  · rw [show (2 : Int) ^ 2 = 4 from rfl] at hS ⊢; exact two_2 m B S h1 h2 h3 hS
  · rw [show (2 : Int) ^ 3 = 8 from rfl] at hS ⊢; exact two_3 m B S h1 h2 h3 hS
  · rw [show (2 : Int) ^ 4 = 16 from rfl] at hS ⊢; exact two_4 m B S h1 h2 h3 hS
  · rw [show (2 : Int) ^ 5 = 32 from rfl] at hS ⊢; exact two_5 m B S h1 h2 h3 hS
  · rw [show (2 : Int) ^ 6 = 64 from rfl] at hS ⊢; exact two_6 m B S h1 h2 h3 hS
  · rw [show (2 : Int) ^ 7 = 128 from rfl] at hS ⊢; exact two_7 m B S h1 h2 h3 hS
  · rw [show (2 : Int) ^ 8 = 256 from rfl] at hS ⊢; exact two_8 m B S h1 h2 h3 hS
  · rw [show (2 : Int) ^ 9 = 512 from rfl] at hS ⊢; exact two_9 m B S h1 h2 h3 hS
end Go.Proofs.Ybulkdeha.Fl
