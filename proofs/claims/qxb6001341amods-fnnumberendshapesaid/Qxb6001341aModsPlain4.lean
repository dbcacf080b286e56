/-
  THE PLAIN LAWS, 4: what numberEnd accepts has a number's shape; and what the checking loop meets at each place of it.
-/
import Derived.Test.Qxb6001341aModsPlain3
namespace Go.Proofs.Qxb6001341aMods.Pl

/-- From i to e lies a number: the integer part from s to d; a fraction (hf) from d to x; an exponent (he) from x to e, its digits from y on. -/
def Shp (zs : List Int) (i e s d x y : Nat) (hf he : Bool) : Prop :=
  e ≤ zs.length ∧ i ≤ s ∧ s ≤ i + 1 ∧ (s = i + 1 ↔ zs.getD i 0 = 45) ∧
  s < d ∧ (∀ j, s ≤ j → j < d → digB (zs.getD j 0) = true) ∧ (zs.getD s 0 = 48 → d = s + 1) ∧
  d ≤ x ∧ (hf = false → x = d) ∧ (hf = true → zs.getD d 0 = 46 ∧ d + 1 < x ∧ ∀ j, d + 1 ≤ j → j < x → digB (zs.getD j 0) = true) ∧
  x ≤ e ∧ (he = false → e = x) ∧ (he = true → (zs.getD x 0 = 101 ∨ zs.getD x 0 = 69) ∧ x + 1 ≤ y ∧ y ≤ x + 2 ∧ (y = x + 2 → zs.getD (x + 1) 0 = 43 ∨ zs.getD (x + 1) 0 = 45) ∧ y < e ∧ ∀ j, y ≤ j → j < e → digB (zs.getD j 0) = true)

theorem digE_all : ∀ (m : Nat) (zs : List Int) (i : Nat), zs.length ≤ i + m → ∀ j, i ≤ j → j < digE zs i → digB (zs.getD j 0) = true
  | 0, zs, i, h, j, h1, h2 => by rw [digE_end zs i (by omega)] at h2; omega
  | m + 1, zs, i, h, j, h1, h2 => by
    by_cases hi : i < zs.length
    · cases hd : digB (zs.getD i 0)
      · rw [digE_stop zs i hi hd] at h2; omega
      · by_cases e : j = i
        · rw [e]; exact hd
        · rw [digE_step zs i hi hd] at h2
          exact digE_all m zs (i + 1) (by omega) j (by omega) h2
    · rw [digE_end zs i (by omega)] at h2; omega
theorem digE_digits (zs : List Int) (i j : Nat) (h1 : i ≤ j) (h2 : j < digE zs i) : digB (zs.getD j 0) = true := digE_all zs.length zs i (by omega) j h1 h2

theorem expE_shape (zs : List Int) (k e : Nat) (hk : k ≤ zs.length) (h : expE zs k = (e, true)) :
    ∃ (y : Nat) (he : Bool), e ≤ zs.length ∧ k ≤ e ∧ (he = false → e = k) ∧ (he = true → (zs.getD k 0 = 101 ∨ zs.getD k 0 = 69) ∧ k + 1 ≤ y ∧ y ≤ k + 2 ∧ (y = k + 2 → zs.getD (k + 1) 0 = 43 ∨ zs.getD (k + 1) 0 = 45) ∧ y < e ∧ ∀ j, y ≤ j → j < e → digB (zs.getD j 0) = true) := by
  have hbd := expE_bd zs k hk
  rw [h] at hbd
  simp only [] at hbd
  unfold expE at h
  split at h
  · rename_i h1
    have hc : zs.getD k 0 = 101 ∨ zs.getD k 0 = 69 := by
      rcases Bool.or_eq_true_iff.1 h1 with h1 | h1
      · exact .inl (at_yes h1).2
      · exact .inr (at_yes h1).2
    split at h
    · rename_i h2
      have hc2 : zs.getD (k + 1) 0 = 43 ∨ zs.getD (k + 1) 0 = 45 := by
        rcases Bool.or_eq_true_iff.1 h2 with h2 | h2
        · exact .inl (at_yes h2).2
        · exact .inr (at_yes h2).2
      split at h
      · simp at h
      · rename_i h3
        simp only [Prod.mk.injEq, and_true] at h
        have g := digE_ge zs (k + 2)
        refine ⟨k + 2, true, hbd.2, hbd.1, (fun h => by cases h), fun _ => ⟨hc, by omega, by omega, fun _ => hc2, by omega, fun j a b => ?_⟩⟩
        exact digE_digits zs (k + 2) j a (by omega)
    · split at h
      · simp at h
      · rename_i h3
        simp only [Prod.mk.injEq, and_true] at h
        have g := digE_ge zs (k + 1)
        refine ⟨k + 1, true, hbd.2, hbd.1, (fun h => by cases h), fun _ => ⟨hc, by omega, by omega, fun h => by omega, by omega, fun j a b => ?_⟩⟩
        exact digE_digits zs (k + 1) j a (by omega)
  · simp only [Prod.mk.injEq, and_true] at h
    exact ⟨0, false, hbd.2, hbd.1, (fun _ => h.symm), fun h => by cases h⟩

theorem fracE_shape (zs : List Int) (d e : Nat) (hd : d ≤ zs.length) (h : fracE zs d = (e, true)) :
    ∃ (x : Nat) (hf : Bool), x ≤ zs.length ∧ d ≤ x ∧ (hf = false → x = d) ∧ (hf = true → zs.getD d 0 = 46 ∧ d + 1 < x ∧ ∀ j, d + 1 ≤ j → j < x → digB (zs.getD j 0) = true) ∧ expE zs x = (e, true) := by
  unfold fracE at h
  split at h
  · rename_i h1
    have hc := at_yes h1
    have g := digE_ge zs (d + 1)
    have l := digE_le zs (d + 1) hc.1
    split at h
    · simp at h
    · rename_i h2
      exact ⟨digE zs (d + 1), true, l, by omega, (fun h => by cases h), (fun _ => ⟨hc.2, by omega, fun j a b => digE_digits zs (d + 1) j a b⟩), h⟩
  · exact ⟨d, false, hd, Nat.le_refl _, (fun _ => rfl), (fun h => by cases h), h⟩

theorem intE_shape (zs : List Int) (s e : Nat) (hs : s ≤ zs.length) (h : intE zs s = (e, true)) :
    ∃ d, d ≤ zs.length ∧ s < d ∧ (∀ j, s ≤ j → j < d → digB (zs.getD j 0) = true) ∧ (zs.getD s 0 = 48 → d = s + 1) ∧ fracE zs d = (e, true) := by
  unfold intE at h
  split at h
  · rename_i h1
    have hc := at_yes h1
    refine ⟨s + 1, hc.1, by omega, fun j a b => ?_, fun _ => rfl, h⟩
    obtain rfl : j = s := by omega
    rw [hc.2]; decide
  · rename_i h1
    have g := digE_ge zs s
    have l := digE_le zs s hs
    split at h
    · simp at h
    · rename_i h2
      refine ⟨digE zs s, l, by omega, fun j a b => digE_digits zs s j a b, fun h48 => ?_, h⟩
      exfalso
      apply h1
      have hlt : s < zs.length := by omega
      rw [at_lt zs s 48 hlt, h48]; rfl

theorem numE_shape (zs : List Int) (i e : Nat) (hi : i ≤ zs.length) (h : numE zs i = (e, true)) : ∃ (s d x y : Nat) (hf he : Bool), Shp zs i e s d x y hf he := by
  have key : ∀ s, s ≤ zs.length → i ≤ s → s ≤ i + 1 → (s = i + 1 ↔ zs.getD i 0 = 45) → intE zs s = (e, true) → ∃ (s d x y : Nat) (hf he : Bool), Shp zs i e s d x y hf he := by
    intro s hs h1 h2 h3 h4
    obtain ⟨d, hd, k1, k2, k3, hq⟩ := intE_shape zs s e hs h4
    obtain ⟨x, hf, hx, l1, l2, l3, hr⟩ := fracE_shape zs d e hd hq
    obtain ⟨y, he, m1, m2, m3, m4⟩ := expE_shape zs x e hx hr
    exact ⟨s, d, x, y, hf, he, m1, h1, h2, h3, k1, k2, k3, l1, l2, l3, m2, m3, m4⟩
  unfold numE at h
  split at h
  · rename_i h1
    have hc := at_yes h1
    exact key (i + 1) hc.1 (by omega) (by omega) ⟨fun _ => hc.2, fun _ => rfl⟩ h
  · rename_i h1
    refine key i hi (Nat.le_refl _) (by omega) ⟨fun h => by omega, fun h45 => ?_⟩ h
    exfalso
    apply h1
    by_cases hlt : i < zs.length
    · rw [at_lt zs i 45 hlt, h45]; rfl
    · have e0 : zs.getD i 0 = 0 := by simp [List.getD, List.getElem?_eq_none (show zs.length ≤ i by omega)]
      rw [e0] at h45; cases h45

/-! ### the checking loop -/
def dotAt (hf : Bool) (d k : Nat) : Int := if hf = true ∧ d < k then (d : Int) else -1
def exAt (he : Bool) (x k : Nat) : Int := if he = true ∧ x < k then (x : Int) else -1

theorem Shp.last {zs : List Int} {i e s d x y : Nat} {hf he : Bool} (h : Shp zs i e s d x y hf he) : i < e ∧ digB (zs.getD (e - 1) 0) = true := by
  obtain ⟨h1, h2, h3, h4, h5, h6, h7, h8, h9, h10, h11, h12, h13⟩ := h
  cases he
  · have := h12 rfl
    cases hf
    · have := h9 rfl
      exact ⟨by omega, h6 _ (by omega) (by omega)⟩
    · obtain ⟨a, b, c⟩ := h10 rfl
      exact ⟨by omega, c _ (by omega) (by omega)⟩
  · obtain ⟨a, b, c, f, g, k⟩ := h13 rfl
    exact ⟨by omega, k _ (by omega) (by omega)⟩

theorem digB_ne {c : Int} (h : digB c = true) : 48 ≤ c ∧ c ≤ 57 := by simpa [digB] using h

/-- What the loop meets at place k. -/
theorem Shp.meets {zs : List Int} {i e s d x y : Nat} {hf he : Bool} (h : Shp zs i e s d x y hf he) (k : Nat) (hi : i ≤ k) (hk : k < e) :
    (digB (zs.getD k 0) = true ∧ dotAt hf d (k + 1) = dotAt hf d k ∧ exAt he x (k + 1) = exAt he x k) ∨
    (zs.getD k 0 = 45 ∧ k = i ∧ dotAt hf d (k + 1) = dotAt hf d k ∧ exAt he x (k + 1) = exAt he x k) ∨
    (zs.getD k 0 = 46 ∧ dotAt hf d k = -1 ∧ exAt he x k = -1 ∧ dotAt hf d (k + 1) = k ∧ exAt he x (k + 1) = exAt he x k) ∨
    ((zs.getD k 0 = 101 ∨ zs.getD k 0 = 69) ∧ exAt he x k = -1 ∧ dotAt hf d (k + 1) = dotAt hf d k ∧ exAt he x (k + 1) = k) ∨
    ((zs.getD k 0 = 43 ∨ zs.getD k 0 = 45) ∧ (exAt he x k + 1 = k ∧ 0 ≤ exAt he x k) ∧ dotAt hf d (k + 1) = dotAt hf d k ∧ exAt he x (k + 1) = exAt he x k) := by
  obtain ⟨h1, h2, h3, h4, h5, h6, h7, h8, h9, h10, h11, h12, h13⟩ := h
  have hdot : (hf = true → k ≠ d) → dotAt hf d (k + 1) = dotAt hf d k := by
    intro hne; unfold dotAt
    cases hf
    · simp
    · have := hne rfl
      by_cases hh : d < k
      · rw [if_pos ⟨rfl, by omega⟩, if_pos ⟨rfl, hh⟩]
      · rw [if_neg (by omega), if_neg (by omega)]
  have hex : (he = true → k ≠ x) → exAt he x (k + 1) = exAt he x k := by
    intro hne; unfold exAt
    cases he
    · simp
    · have := hne rfl
      by_cases hh : x < k
      · rw [if_pos ⟨rfl, by omega⟩, if_pos ⟨rfl, hh⟩]
      · rw [if_neg (by omega), if_neg (by omega)]
  by_cases hks : k < s
  · -- the sign
    obtain rfl : k = i := by omega
    refine .inr (.inl ⟨h4.1 (by omega), rfl, hdot fun _ => by omega, hex fun _ => by omega⟩)
  by_cases hkd : k < d
  · exact .inl ⟨h6 k (by omega) hkd, hdot fun _ => by omega, hex fun _ => by omega⟩
  by_cases hkx : k < x
  · -- inside the fraction
    cases hf
    · have := h9 rfl; omega
    obtain ⟨a, b, c⟩ := h10 rfl
    by_cases hkd' : k = d
    · refine .inr (.inr (.inl ⟨by rw [hkd']; exact a, ?_, ?_, ?_, hex fun _ => by omega⟩))
      · unfold dotAt; rw [if_neg (by omega)]
      · unfold exAt; rw [if_neg (by omega)]
      · unfold dotAt; rw [if_pos ⟨rfl, by omega⟩]; omega
    · exact .inl ⟨c k (by omega) hkx, hdot fun _ => by omega, hex fun _ => by omega⟩
  -- inside the exponent
  cases he
  · have := h12 rfl; omega
  obtain ⟨a, b, c, f, g, q⟩ := h13 rfl
  have hdn : hf = true → k ≠ d := by
    intro hh; obtain ⟨a, b, c⟩ := h10 hh; omega
  by_cases hkx' : k = x
  · refine .inr (.inr (.inr (.inl ⟨by rw [hkx']; exact a, ?_, hdot hdn, ?_⟩)))
    · unfold exAt; rw [if_neg (by omega)]
    · unfold exAt; rw [if_pos ⟨rfl, by omega⟩]; omega
  by_cases hky : k < y
  · obtain rfl : k = x + 1 := by omega
    refine .inr (.inr (.inr (.inr ⟨f (by omega), ?_, hdot hdn, hex fun _ => by omega⟩)))
    unfold exAt; rw [if_pos ⟨rfl, by omega⟩]; omega
  · exact .inl ⟨q k (by omega) hk, hdot hdn, hex fun _ => by omega⟩

/-- Behind the loop. -/
theorem Shp.dot {zs : List Int} {i e s d x y : Nat} {hf he : Bool} (h : Shp zs i e s d x y hf he) : (dotAt hf d e = -1) ∨ (dotAt hf d e = d ∧ d + 1 < e ∧ digB (zs.getD (d + 1) 0) = true) := by
  obtain ⟨h1, h2, h3, h4, h5, h6, h7, h8, h9, h10, h11, h12, h13⟩ := h
  cases hf
  · exact .inl (by simp [dotAt])
  · obtain ⟨a, b, c⟩ := h10 rfl
    exact .inr ⟨by unfold dotAt; rw [if_pos ⟨rfl, by omega⟩], by omega, c (d + 1) (by omega) b⟩
theorem Shp.ex {zs : List Int} {i e s d x y : Nat} {hf he : Bool} (h : Shp zs i e s d x y hf he) : (exAt he x e = -1) ∨
    (exAt he x e = x ∧ x + 1 < e ∧ digB (zs.getD (x + 1) 0) = true) ∨ (exAt he x e = x ∧ x + 2 < e ∧ (zs.getD (x + 1) 0 = 43 ∨ zs.getD (x + 1) 0 = 45) ∧ digB (zs.getD (x + 2) 0) = true) := by
  obtain ⟨h1, h2, h3, h4, h5, h6, h7, h8, h9, h10, h11, h12, h13⟩ := h
  cases he
  · exact .inl (by simp [exAt])
  · obtain ⟨a, b, c, f, g, q⟩ := h13 rfl
    have e1 : exAt true x e = x := by unfold exAt; rw [if_pos ⟨rfl, by omega⟩]
    by_cases hy : y = x + 1
    · exact .inr (.inl ⟨e1, by omega, q _ (by omega) (by omega)⟩)
    · exact .inr (.inr ⟨e1, by omega, f (by omega), q _ (by omega) (by omega)⟩)
/-- The integer part. -/
theorem Shp.head {zs : List Int} {i e s d x y : Nat} {hf he : Bool} (h : Shp zs i e s d x y hf he) : s < e ∧ digB (zs.getD s 0) = true ∧ (zs.getD s 0 = 48 → s + 1 < e → digB (zs.getD (s + 1) 0) = false) := by
  obtain ⟨h1, h2, h3, h4, h5, h6, h7, h8, h9, h10, h11, h12, h13⟩ := h
  refine ⟨by omega, h6 s (by omega) h5, fun h48 hlt => ?_⟩
  have hd := h7 h48
  rw [← hd]
  cases hf
  · have hx := h9 rfl
    cases he
    · have := h12 rfl; omega
    · obtain ⟨a, _⟩ := h13 rfl
      rw [hx] at a
      rcases a with a | a <;> rw [a] <;> decide
  · obtain ⟨a, _⟩ := h10 rfl
    rw [a]; decide
theorem dotAt_start (hf : Bool) (d i : Nat) (h : i ≤ d) : dotAt hf d i = -1 := by unfold dotAt; rw [if_neg (by omega)]
theorem exAt_start (he : Bool) (x i : Nat) (h : i ≤ x) : exAt he x i = -1 := by unfold exAt; rw [if_neg (by omega)]
theorem dotAt_bd (hf : Bool) (d k : Nat) : -1 ≤ dotAt hf d k ∧ dotAt hf d k ≤ k := by unfold dotAt; split <;> omega
theorem exAt_bd (he : Bool) (x k : Nat) : -1 ≤ exAt he x k ∧ exAt he x k ≤ k := by unfold exAt; split <;> omega

end Go.Proofs.Qxb6001341aMods.Pl
