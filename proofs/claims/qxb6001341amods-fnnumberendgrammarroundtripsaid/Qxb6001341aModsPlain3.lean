/-
  THE PLAIN LAWS, 3: numberEnd and memberName answer within the data.
-/
import Derived.Test.Qxb6001341aModsPlain2
namespace Go.Proofs.Qxb6001341aMods.Pl

theorem at_yes {zs : List Int} {i : Nat} {c : Int} (h : at? zs i c = true) : i < zs.length ∧ zs.getD i 0 = c := by
  by_cases hi : i < zs.length
  · rw [at_lt zs i c hi] at h
    exact ⟨hi, by simpa using h⟩
  · rw [at_ge zs i c (by omega)] at h; cases h

theorem expE_bd (zs : List Int) (i : Nat) (h : i ≤ zs.length) : i ≤ (expE zs i).1 ∧ (expE zs i).1 ≤ zs.length := by
  unfold expE
  split
  · rename_i h1
    have hi : i < zs.length := by
      rcases Bool.or_eq_true_iff.1 h1 with h1 | h1
      · exact (at_yes h1).1
      · exact (at_yes h1).1
    split
    · rename_i h2
      have hi2 : i + 1 < zs.length := by
        rcases Bool.or_eq_true_iff.1 h2 with h2 | h2
        · exact (at_yes h2).1
        · exact (at_yes h2).1
      have g := digE_ge zs (i + 2)
      have l := digE_le zs (i + 2) hi2
      split
      · simp only []; omega
      · simp only []; omega
    · have g := digE_ge zs (i + 1)
      have l := digE_le zs (i + 1) hi
      split
      · simp only []; omega
      · simp only []; omega
  · simp only []; omega
theorem fracE_bd (zs : List Int) (i : Nat) (h : i ≤ zs.length) : i ≤ (fracE zs i).1 ∧ (fracE zs i).1 ≤ zs.length := by
  unfold fracE
  split
  · rename_i h1
    have hi := (at_yes h1).1
    have g := digE_ge zs (i + 1)
    have l := digE_le zs (i + 1) hi
    split
    · simp only []; omega
    · have := expE_bd zs (digE zs (i + 1)) l
      omega
  · exact expE_bd zs i h
theorem intE_bd (zs : List Int) (i : Nat) (h : i ≤ zs.length) : i ≤ (intE zs i).1 ∧ (intE zs i).1 ≤ zs.length := by
  unfold intE
  split
  · rename_i h1
    have hi := (at_yes h1).1
    have := fracE_bd zs (i + 1) hi
    omega
  · have g := digE_ge zs i
    have l := digE_le zs i h
    split
    · simp only []; omega
    · have := fracE_bd zs (digE zs i) l
      omega
theorem numE_bd (zs : List Int) (i : Nat) (h : i ≤ zs.length) : i ≤ (numE zs i).1 ∧ (numE zs i).1 ≤ zs.length := by
  unfold numE
  split
  · rename_i h1
    have hi := (at_yes h1).1
    have := intE_bd zs (i + 1) hi
    omega
  · exact intE_bd zs i h
theorem memE_bd (zs : List Int) (i : Nat) (h : i ≤ zs.length) : i ≤ (memE zs i).1 ∧ (memE zs i).1 ≤ zs.length := by
  unfold memE
  have g := spE_ge zs i
  have l := spE_le zs i h
  split
  · rename_i h1
    have hi := (at_yes h1).1
    have g1 := strE_ge zs (spE zs i + 1)
    have l1 := strE_le zs (spE zs i + 1) hi
    split
    · have g2 := spE_ge zs (strE zs (spE zs i + 1)).1
      have l2 := spE_le zs (strE zs (spE zs i + 1)).1 l1
      split
      · rename_i h2
        have hi2 := (at_yes h2).1
        simp only []; omega
      · simp only []; omega
    · simp only []; omega
  · simp only []; omega

end Go.Proofs.Qxb6001341aMods.Pl
