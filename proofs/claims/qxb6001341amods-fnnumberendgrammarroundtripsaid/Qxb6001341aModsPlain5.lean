/-
  THE PLAIN LAWS, 5: whole texts, written and read: a raw control byte inside a string; a member's name with its colon, and without.
-/
import Derived.Test.Qxb6001341aModsPlain3
namespace Go.Proofs.Qxb6001341aMods.Pl

theorem strE_from (pre l : List Int) (n : Nat) (h : pre.length = n) : strE (pre ++ l) n = bump n (strN l) := by
  have := strE_pre pre l 0
  rw [Nat.add_zero, h] at this
  rw [this]; unfold strE
  rw [List.drop_zero, bump_bump, Nat.add_zero]
theorem spE_from (pre l : List Int) (n : Nat) (h : pre.length = n) : spE (pre ++ l) n = n + spN l := by
  have := spE_pre pre l 0
  rw [Nat.add_zero, h] at this
  rw [this]; unfold spE
  rw [List.drop_zero, Nat.zero_add]
theorem at_from (pre l : List Int) (n : Nat) (h : pre.length = n) (c : Int) : at? (pre ++ l) n c = at? l 0 c := by
  have := at_pre pre l 0 c
  rw [Nat.add_zero, h] at this
  exact this

theorem ctrl_read (s1 s2 s4 : Bool) (xs t : List Int) (c : Int) (hx : ∀ z ∈ xs, 0 ≤ z ∧ z ≤ 255) (hc : c < 32) :
    strE ((([34] ++ enc s1 s2 s4 xs) ++ [c]) ++ t) 1 = (1 + (enc s1 s2 s4 xs).length, false) := by
  have e : (([34] ++ enc s1 s2 s4 xs) ++ [c]) ++ t = [34] ++ (enc s1 s2 s4 xs ++ (c :: t)) := by simp
  rw [e, strE_from [34] _ 1 rfl, strN_enc s1 s2 s4 xs hx]
  have q : strN (c :: t) = (0, false) := by rw [strN.eq_def]; simp only []; rw [if_neg (by omega), if_pos hc]
  rw [q]; simp [bump]

/-- A name and what follows it: 'W2' blanks, then 'T', which does not begin with a blank. -/
theorem mem_read (s1 s2 s4 : Bool) (W1 W2 xs T : List Int) (hx : ∀ z ∈ xs, 0 ≤ z ∧ z ≤ 255) (h1 : ∀ z ∈ W1, spB z = true) (h2 : ∀ z ∈ W2, spB z = true) (hT : spN T = 0) :
    memE ((W1 ++ [34]) ++ (enc s1 s2 s4 xs ++ ([34] ++ (W2 ++ T)))) 0 =
      if at? T 0 58 then (W1.length + (enc s1 s2 s4 xs).length + W2.length + 3, true) else (W1.length + (enc s1 s2 s4 xs).length + W2.length + 2, false) := by
  have a : spE ((W1 ++ [34]) ++ (enc s1 s2 s4 xs ++ ([34] ++ (W2 ++ T)))) 0 = W1.length := by
    unfold spE
    rw [List.drop_zero, List.append_assoc, spN_space W1 h1, List.singleton_append, spN, if_neg (by decide)]; omega
  have b : at? ((W1 ++ [34]) ++ (enc s1 s2 s4 xs ++ ([34] ++ (W2 ++ T)))) W1.length 34 = true := by
    rw [List.append_assoc, at_from W1 _ _ rfl]; rfl
  have c : strE ((W1 ++ [34]) ++ (enc s1 s2 s4 xs ++ ([34] ++ (W2 ++ T)))) (W1.length + 1) = (W1.length + (enc s1 s2 s4 xs).length + 2, true) := by
    rw [strE_from (W1 ++ [34]) _ (W1.length + 1) (by simp), strN_enc s1 s2 s4 xs hx]
    have q : strN ([34] ++ (W2 ++ T)) = (1, true) := by rw [List.singleton_append, strN.eq_def]; rfl
    rw [q]; simp [bump]; omega
  have e : (W1 ++ [34]) ++ (enc s1 s2 s4 xs ++ ([34] ++ (W2 ++ T))) = ((W1 ++ [34]) ++ (enc s1 s2 s4 xs ++ [34])) ++ (W2 ++ T) := by simp
  have d : spE ((W1 ++ [34]) ++ (enc s1 s2 s4 xs ++ ([34] ++ (W2 ++ T)))) (W1.length + (enc s1 s2 s4 xs).length + 2) = W1.length + (enc s1 s2 s4 xs).length + W2.length + 2 := by
    rw [e, spE_from _ (W2 ++ T) _ (by simp; omega), spN_space W2 h2, hT]; omega
  have e' : (W1 ++ [34]) ++ (enc s1 s2 s4 xs ++ ([34] ++ (W2 ++ T))) = (((W1 ++ [34]) ++ (enc s1 s2 s4 xs ++ [34])) ++ W2) ++ T := by simp
  have f : at? ((W1 ++ [34]) ++ (enc s1 s2 s4 xs ++ ([34] ++ (W2 ++ T)))) (W1.length + (enc s1 s2 s4 xs).length + W2.length + 2) 58 = at? T 0 58 := by
    rw [e', at_from _ T _ (by simp; omega)]
  unfold memE
  rw [a, b, c]
  simp only [if_true]
  rw [d, f]

theorem colon_read (s1 s2 s4 : Bool) (W1 W2 xs R : List Int) (hx : ∀ z ∈ xs, 0 ≤ z ∧ z ≤ 255) (h1 : ∀ z ∈ W1, spB z = true) (h2 : ∀ z ∈ W2, spB z = true) :
    memE ((((W1 ++ [34]) ++ enc s1 s2 s4 xs) ++ (([34] ++ W2) ++ [58])) ++ R) 0 = (W1.length + (enc s1 s2 s4 xs).length + W2.length + 3, true) := by
  have e : (((W1 ++ [34]) ++ enc s1 s2 s4 xs) ++ (([34] ++ W2) ++ [58])) ++ R = (W1 ++ [34]) ++ (enc s1 s2 s4 xs ++ ([34] ++ (W2 ++ (58 :: R)))) := by simp
  rw [e, mem_read s1 s2 s4 W1 W2 xs (58 :: R) hx h1 h2 (by rw [spN, if_neg (by decide)])]
  rfl
theorem nocolon_read (s1 s2 s4 : Bool) (W1 W2 xs R : List Int) (hx : ∀ z ∈ xs, 0 ≤ z ∧ z ≤ 255) (h1 : ∀ z ∈ W1, spB z = true) (h2 : ∀ z ∈ W2, spB z = true) (hR : spN R = 0) (hq : at? R 0 58 = false) :
    memE ((((W1 ++ [34]) ++ enc s1 s2 s4 xs) ++ ([34] ++ W2)) ++ R) 0 = (W1.length + (enc s1 s2 s4 xs).length + W2.length + 2, false) := by
  have e : (((W1 ++ [34]) ++ enc s1 s2 s4 xs) ++ ([34] ++ W2)) ++ R = (W1 ++ [34]) ++ (enc s1 s2 s4 xs ++ ([34] ++ (W2 ++ R))) := by simp
  rw [e, mem_read s1 s2 s4 W1 W2 xs R hx h1 h2 hR, hq]
  rfl

end Go.Proofs.Qxb6001341aMods.Pl
