/-
  THE PLAIN LAWS, 2: bounds; the readers look only forward; what is written is read.
-/
import Derived.Test.Qxb6001341aModsPlain
namespace Go.Proofs.Qxb6001341aMods.Pl

theorem strN_le : ∀ (m : Nat) (l : List Int), l.length ≤ m → (strN l).1 ≤ l.length
  | 0, l, h => by
    have : l = [] := List.eq_nil_of_length_eq_zero (by omega)
    subst this; simp [strN]
  | m + 1, [], _ => by simp [strN]
  | m + 1, c :: r, h => by
    simp only [List.length_cons] at h
    rw [strN.eq_def]; simp only []
    split
    · simp
    split
    · simp
    split
    · have := strN_le m r (by omega)
      simp only [bump, List.length_cons]; omega
    split
    · simp
    · rename_i d r2
      simp only [List.length_cons] at h ⊢
      split
      · have := strN_le m r2 (by omega)
        simp only [bump]; omega
      split
      · simp
      split
      · rename_i h1 h2 h3 h4 r3
        simp only [List.length_cons] at h ⊢
        split
        · have := strN_le m r3 (by omega)
          simp only [bump]; omega
        · simp
      · simp

theorem strE_le (zs : List Int) (i : Nat) (h : i ≤ zs.length) : (strE zs i).1 ≤ zs.length := by
  have := strN_le _ (zs.drop i) (Nat.le_refl _)
  simp only [List.length_drop] at this
  simp only [strE, bump]; omega
theorem strE_ge (zs : List Int) (i : Nat) : i ≤ (strE zs i).1 := by simp only [strE, bump]; omega

/-! ### the readers look only forward -/
theorem drop_pre (pre zs : List Int) (i : Nat) : (pre ++ zs).drop (pre.length + i) = zs.drop i := by
  rw [List.drop_append]; simp
theorem digE_pre (pre zs : List Int) (i : Nat) : digE (pre ++ zs) (pre.length + i) = pre.length + digE zs i := by
  unfold digE; rw [drop_pre]; omega
theorem spE_pre (pre zs : List Int) (i : Nat) : spE (pre ++ zs) (pre.length + i) = pre.length + spE zs i := by
  unfold spE; rw [drop_pre]; omega
theorem strE_pre (pre zs : List Int) (i : Nat) : strE (pre ++ zs) (pre.length + i) = bump pre.length (strE zs i) := by
  unfold strE; rw [drop_pre, bump_bump]
theorem at_pre (pre zs : List Int) (i : Nat) (c : Int) : at? (pre ++ zs) (pre.length + i) c = at? zs i c := by
  unfold at?; rw [List.getElem?_append_right (by omega)]; simp

theorem memE_pre (pre zs : List Int) (i : Nat) : memE (pre ++ zs) (pre.length + i) = bump pre.length (memE zs i) := by
  unfold memE
  rw [spE_pre, at_pre, Nat.add_assoc, strE_pre]
  have e : (bump pre.length (strE zs (spE zs i + 1))).2 = (strE zs (spE zs i + 1)).2 := rfl
  have e1 : (bump pre.length (strE zs (spE zs i + 1))).1 = pre.length + (strE zs (spE zs i + 1)).1 := rfl
  rw [e, e1, spE_pre, at_pre]
  split
  · split
    · split <;> simp [bump, Nat.add_assoc]
    · simp [bump]
  · simp [bump]

theorem expE_pre (pre zs : List Int) (i : Nat) : expE (pre ++ zs) (pre.length + i) = bump pre.length (expE zs i) := by
  unfold expE
  simp only [Nat.add_assoc, at_pre, digE_pre]
  split
  · split
    · by_cases h : digE zs (i + 2) = i + 2
      · rw [if_pos h, if_pos (by omega)]; rfl
      · rw [if_neg h, if_neg (by omega)]; rfl
    · by_cases h : digE zs (i + 1) = i + 1
      · rw [if_pos h, if_pos (by omega)]; rfl
      · rw [if_neg h, if_neg (by omega)]; rfl
  · rfl
theorem fracE_pre (pre zs : List Int) (i : Nat) : fracE (pre ++ zs) (pre.length + i) = bump pre.length (fracE zs i) := by
  unfold fracE
  simp only [Nat.add_assoc, at_pre, digE_pre, expE_pre]
  split
  · by_cases h : digE zs (i + 1) = i + 1
    · rw [if_pos h, if_pos (by omega)]; rfl
    · rw [if_neg h, if_neg (by omega)]
  · rfl
theorem intE_pre (pre zs : List Int) (i : Nat) : intE (pre ++ zs) (pre.length + i) = bump pre.length (intE zs i) := by
  unfold intE
  simp only [Nat.add_assoc, at_pre, digE_pre, fracE_pre]
  split
  · rfl
  · by_cases h : digE zs i = i
    · rw [if_pos h, if_pos (by omega)]; rfl
    · rw [if_neg h, if_neg (by omega)]
theorem numE_pre (pre zs : List Int) (i : Nat) : numE (pre ++ zs) (pre.length + i) = bump pre.length (numE zs i) := by
  unfold numE
  simp only [Nat.add_assoc, at_pre, intE_pre]
  split <;> rfl

/-! ### what is written is read -/
theorem hexD_hex (up : Bool) (d : Int) (h0 : 0 ≤ d) (h1 : d ≤ 15) : hexB (hexD up d) = true := by
  unfold hexD
  split
  · simp [hexB]; omega
  · split
    · simp [hexB]; omega
    · simp [hexB]; omega
theorem shortE_esc (c : Int) (h : shortE c ≠ 0) : escB (shortE c) = true := by
  unfold shortE at h ⊢
  repeat' split
  all_goals first | rfl | (exfalso; revert h; simp [*])

theorem strN_esc (d : Int) (r : List Int) (h : escB d = true) : strN (92 :: d :: r) = bump 2 (strN r) := by
  rw [strN.eq_def]; simp only []
  rw [if_neg (by decide), if_neg (by decide), if_neg (by decide), if_pos h]
theorem strN_u (x1 x2 x3 x4 : Int) (r : List Int) (h1 : hexB x1 = true) (h2 : hexB x2 = true) (h3 : hexB x3 = true) (h4 : hexB x4 = true) : strN (92 :: 117 :: x1 :: x2 :: x3 :: x4 :: r) = bump 6 (strN r) := by
  rw [strN.eq_def]; simp only []
  rw [if_neg (by decide), if_neg (by decide), if_neg (by decide), if_neg (by decide), if_neg (by decide), if_pos (by rw [h1, h2, h3, h4]; rfl)]

theorem strN_encB (s1 s2 s4 : Bool) (c : Int) (h0 : 0 ≤ c) (h1 : c ≤ 255) (r : List Int) :
    strN (encB s1 s2 s4 c ++ r) = bump (encB s1 s2 s4 c).length (strN r) := by
  unfold encB
  split
  · exact strN_esc 34 r (by decide)
  split
  · exact strN_esc 92 r (by decide)
  split
  · exact strN_esc 47 r (by decide)
  split
  · split
    · rename_i h
      exact strN_esc _ r (shortE_esc c h.2)
    · have a := hexD_hex s4 (c / 16) (by omega) (by omega)
      have b := hexD_hex s4 (c % 16) (by omega) (by omega)
      have z : hexB 48 = true := by decide
      exact strN_u _ _ _ _ r z z a b
  · rename_i a b _ d
    rw [List.singleton_append, strN.eq_def]
    simp only []
    rw [if_neg a, if_neg d, if_pos b]; rfl

theorem strN_enc (s1 s2 s4 : Bool) : ∀ (l : List Int) (_ : ∀ z ∈ l, 0 ≤ z ∧ z ≤ 255) (r : List Int), strN (enc s1 s2 s4 l ++ r) = bump (enc s1 s2 s4 l).length (strN r)
  | [], _, r => by simp [enc, bump]
  | c :: l, h, r => by
    have hc := h c (by simp)
    rw [enc, List.append_assoc, strN_encB s1 s2 s4 c hc.1 hc.2, strN_enc s1 s2 s4 l (fun z hz => h z (by simp [hz])) r, bump_bump, List.length_append]

theorem encB_le (s1 s2 s4 : Bool) (c : Int) : (encB s1 s2 s4 c).length ≤ 6 := by
  unfold encB; repeat' split
  all_goals simp
theorem enc_le (s1 s2 s4 : Bool) : ∀ l : List Int, (enc s1 s2 s4 l).length ≤ 6 * l.length
  | [] => by simp [enc]
  | c :: l => by
    have := enc_le s1 s2 s4 l
    have := encB_le s1 s2 s4 c
    rw [enc, List.length_append, List.length_cons]; omega
theorem enc_append (s1 s2 s4 : Bool) : ∀ l m : List Int, enc s1 s2 s4 (l ++ m) = enc s1 s2 s4 l ++ enc s1 s2 s4 m
  | [], m => by simp [enc]
  | c :: l, m => by rw [List.cons_append, enc, enc, enc_append s1 s2 s4 l m, List.append_assoc]
theorem enc_take (s1 s2 s4 : Bool) (l : List Int) (k : Nat) (h : k < l.length) : enc s1 s2 s4 (l.take (k + 1)) = enc s1 s2 s4 (l.take k) ++ encB s1 s2 s4 (l.getD k 0) := by
  rw [List.take_succ_eq_append_getElem h, enc_append]; simp [enc, List.getD, List.getElem?_eq_getElem h]
theorem encB_byte (s1 s2 s4 : Bool) (c : Int) (h0 : 0 ≤ c) (h1 : c ≤ 255) : ∀ z ∈ encB s1 s2 s4 c, 0 ≤ z ∧ z ≤ 255 := by
  have hx : ∀ d : Int, 0 ≤ d → d ≤ 15 → 0 ≤ hexD s4 d ∧ hexD s4 d ≤ 255 := by
    intro d a b; unfold hexD; repeat' split
    all_goals omega
  have hs : 0 ≤ shortE c ∧ shortE c ≤ 255 := by
    unfold shortE; repeat' split
    all_goals omega
  have x1 := hx (c / 16)
  have x2 := hx (c % 16)
  unfold encB
  intro z hz
  split at hz
  · simp at hz; omega
  split at hz
  · simp at hz; omega
  split at hz
  · simp at hz; omega
  split at hz
  · split at hz
    · simp at hz; omega
    · have x1 := x1 (by omega) (by omega)
      have x2 := x2 (by omega) (by omega)
      simp at hz; omega
  · simp at hz; omega
theorem enc_byte (s1 s2 s4 : Bool) : ∀ (l : List Int) (_ : ∀ z ∈ l, 0 ≤ z ∧ z ≤ 255), ∀ z ∈ enc s1 s2 s4 l, 0 ≤ z ∧ z ≤ 255
  | [], _ => by simp [enc]
  | c :: l, h => by
    have hc := h c (by simp)
    intro z hz
    rw [enc] at hz
    rcases List.mem_append.1 hz with hz | hz
    · exact encB_byte s1 s2 s4 c hc.1 hc.2 z hz
    · exact enc_byte s1 s2 s4 l (fun z hz => h z (by simp [hz])) z hz

theorem spN_space : ∀ (l : List Int) (_ : ∀ z ∈ l, spB z = true) (r : List Int), spN (l ++ r) = l.length + spN r
  | [], _, r => by simp
  | c :: l, h, r => by
    rw [List.cons_append, spN, if_pos (h c (by simp)), spN_space l (fun z hz => h z (by simp [hz])) r, List.length_cons]; omega

end Go.Proofs.Qxb6001341aMods.Pl
