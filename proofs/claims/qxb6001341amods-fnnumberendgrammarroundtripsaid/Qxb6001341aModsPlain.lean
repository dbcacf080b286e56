/-
  THE PLAIN FUNCTIONS: what each Go reader or writer on the roads computes, over lists of numbers. No Go in sight.
-/
namespace Go.Proofs.Qxb6001341aMods.Pl

def digB (c : Int) : Bool := decide (48 ≤ c) && decide (c ≤ 57)
def hexB (c : Int) : Bool := (decide (48 ≤ c) && decide (c ≤ 57)) || ((decide (97 ≤ c) && decide (c ≤ 102)) || (decide (65 ≤ c) && decide (c ≤ 70)))
def spB (c : Int) : Bool := c == 32 || (c == 9 || (c == 10 || c == 13))
def escB (c : Int) : Bool := c == 34 || (c == 92 || (c == 47 || (c == 98 || (c == 102 || (c == 110 || (c == 114 || c == 116))))))

/-- How many digits the list begins with. -/
def digN : List Int → Nat
  | [] => 0
  | c :: r => if digB c then digN r + 1 else 0
def digE (zs : List Int) (i : Nat) : Nat := i + digN (zs.drop i)

/-- How many blanks the list begins with. -/
def spN : List Int → Nat
  | [] => 0
  | c :: r => if spB c then spN r + 1 else 0
def spE (zs : List Int) (i : Nat) : Nat := i + spN (zs.drop i)

def bump (k : Nat) (p : Nat × Bool) : Nat × Bool := (k + p.1, p.2)

/-- stringEnd, from the list's head on. -/
def strN : List Int → Nat × Bool
  | [] => (0, false)
  | c :: r =>
    if c = 34 then (1, true) else if c < 32 then (0, false) else if c ≠ 92 then bump 1 (strN r) else
    match r with
    | [] => (1, false)
    | d :: r2 =>
      if escB d = true then bump 2 (strN r2) else if d ≠ 117 then (1, false) else
      match r2 with
      | h1 :: h2 :: h3 :: h4 :: r3 => if (hexB h1 && (hexB h2 && (hexB h3 && hexB h4))) = true then bump 6 (strN r3) else (1, false)
      | _ => (1, false)
def strE (zs : List Int) (i : Nat) : Nat × Bool := bump i (strN (zs.drop i))

def at? (zs : List Int) (i : Nat) (c : Int) : Bool := zs[i]? == some c

/-- memberName. -/
def memE (zs : List Int) (i : Nat) : Nat × Bool :=
  if at? zs (spE zs i) 34 then
    if (strE zs (spE zs i + 1)).2 then
      if at? zs (spE zs (strE zs (spE zs i + 1)).1) 58 then (spE zs (strE zs (spE zs i + 1)).1 + 1, true) else (spE zs (strE zs (spE zs i + 1)).1, false)
    else ((strE zs (spE zs i + 1)).1, false)
  else (spE zs i, false)

/-- numberEnd, in its three stretches: the exponent's, the fraction's, the whole. -/
def expE (zs : List Int) (i : Nat) : Nat × Bool :=
  if at? zs i 101 || at? zs i 69 then
    if at? zs (i + 1) 43 || at? zs (i + 1) 45 then
      if digE zs (i + 2) = i + 2 then (i + 2, false) else (digE zs (i + 2), true)
    else
      if digE zs (i + 1) = i + 1 then (i + 1, false) else (digE zs (i + 1), true)
  else (i, true)
def fracE (zs : List Int) (i : Nat) : Nat × Bool :=
  if at? zs i 46 then
    if digE zs (i + 1) = i + 1 then (i + 1, false) else expE zs (digE zs (i + 1))
  else expE zs i
def intE (zs : List Int) (i : Nat) : Nat × Bool :=
  if at? zs i 48 then fracE zs (i + 1)
  else if digE zs i = i then (i, false)
  else fracE zs (digE zs i)
def numE (zs : List Int) (i : Nat) : Nat × Bool :=
  if at? zs i 45 then intE zs (i + 1) else intE zs i

/-! ### the writer of a JSON string's body -/
def shortE (c : Int) : Int := if c = 8 then 98 else if c = 12 then 102 else if c = 10 then 110 else if c = 13 then 114 else if c = 9 then 116 else 0
def hexD (up : Bool) (d : Int) : Int := if d < 10 then 48 + d else if up = true then 65 + d - 10 else 97 + d - 10
/-- One byte, written; s1, s2, s4: the style's three bits. -/
def encB (s1 s2 s4 : Bool) (c : Int) : List Int :=
  if c = 34 then [92, 34] else if c = 92 then [92, 92] else if c = 47 ∧ s1 = true then [92, 47] else
  if c < 32 then (if s2 = true ∧ shortE c ≠ 0 then [92, shortE c] else [92, 117, 48, 48, hexD s4 (c / 16), hexD s4 (c % 16)]) else [c]
def enc (s1 s2 s4 : Bool) : List Int → List Int
  | [] => []
  | c :: r => encB s1 s2 s4 c ++ enc s1 s2 s4 r

/-! ### facts -/
theorem drop_cons (zs : List Int) (i : Nat) (h : i < zs.length) : zs.drop i = zs.getD i 0 :: zs.drop (i + 1) := by
  rw [List.drop_eq_getElem_cons h]; simp [List.getD, List.getElem?_eq_getElem h]

theorem at_lt (zs : List Int) (i : Nat) (c : Int) (h : i < zs.length) : at? zs i c = (zs.getD i 0 == c) := by
  simp [at?, List.getD, List.getElem?_eq_getElem h]
theorem at_ge (zs : List Int) (i : Nat) (c : Int) (h : zs.length ≤ i) : at? zs i c = false := by
  simp [at?, List.getElem?_eq_none h]

theorem digE_step (zs : List Int) (i : Nat) (h : i < zs.length) (hd : digB (zs.getD i 0) = true) : digE zs i = digE zs (i + 1) := by
  unfold digE; rw [drop_cons zs i h, digN, if_pos hd]; omega
theorem digE_stop (zs : List Int) (i : Nat) (h : i < zs.length) (hd : digB (zs.getD i 0) = false) : digE zs i = i := by
  unfold digE; rw [drop_cons zs i h, digN, if_neg (by rw [hd]; decide)]; omega
theorem digE_end (zs : List Int) (i : Nat) (h : zs.length ≤ i) : digE zs i = i := by
  unfold digE; rw [List.drop_eq_nil_of_le h, digN]; omega
theorem digN_le : ∀ l : List Int, digN l ≤ l.length
  | [] => Nat.le_refl _
  | c :: r => by
    unfold digN
    have := digN_le r
    split
    · simp; omega
    · simp
theorem digE_ge (zs : List Int) (i : Nat) : i ≤ digE zs i := by unfold digE; omega
theorem digE_le (zs : List Int) (i : Nat) (h : i ≤ zs.length) : digE zs i ≤ zs.length := by
  unfold digE; have := digN_le (zs.drop i); simp at this; omega

theorem spE_step (zs : List Int) (i : Nat) (h : i < zs.length) (hd : spB (zs.getD i 0) = true) : spE zs i = spE zs (i + 1) := by
  unfold spE; rw [drop_cons zs i h, spN, if_pos hd]; omega
theorem spE_stop (zs : List Int) (i : Nat) (h : i < zs.length) (hd : spB (zs.getD i 0) = false) : spE zs i = i := by
  unfold spE; rw [drop_cons zs i h, spN, if_neg (by rw [hd]; decide)]; omega
theorem spE_end (zs : List Int) (i : Nat) (h : zs.length ≤ i) : spE zs i = i := by
  unfold spE; rw [List.drop_eq_nil_of_le h, spN]; omega
theorem spN_le : ∀ l : List Int, spN l ≤ l.length
  | [] => Nat.le_refl _
  | c :: r => by
    unfold spN
    have := spN_le r
    split
    · simp; omega
    · simp
theorem spE_ge (zs : List Int) (i : Nat) : i ≤ spE zs i := by unfold spE; omega
theorem spE_le (zs : List Int) (i : Nat) (h : i ≤ zs.length) : spE zs i ≤ zs.length := by
  unfold spE; have := spN_le (zs.drop i); simp at this; omega

theorem bump_bump (a b : Nat) (p : Nat × Bool) : bump a (bump b p) = bump (a + b) p := by simp [bump]; omega

/-! ### stringEnd, step by step -/
theorem strE_end (zs : List Int) (i : Nat) (h : zs.length ≤ i) : strE zs i = (i, false) := by
  unfold strE; rw [List.drop_eq_nil_of_le h, strN]; rfl
theorem strE_quote (zs : List Int) (i : Nat) (h : i < zs.length) (hc : zs.getD i 0 = 34) : strE zs i = (i + 1, true) := by
  unfold strE; rw [drop_cons zs i h, strN.eq_def]; simp only [hc]; rfl
theorem strE_ctrl (zs : List Int) (i : Nat) (h : i < zs.length) (hc : zs.getD i 0 < 32) : strE zs i = (i, false) := by
  unfold strE; rw [drop_cons zs i h, strN.eq_def]; simp only []; rw [if_neg (by omega), if_pos hc]; rfl
theorem strE_plain (zs : List Int) (i : Nat) (h : i < zs.length) (h1 : zs.getD i 0 ≠ 34) (h2 : ¬ zs.getD i 0 < 32) (h3 : zs.getD i 0 ≠ 92) : strE zs i = strE zs (i + 1) := by
  unfold strE; rw [drop_cons zs i h, strN.eq_def]; simp only []; rw [if_neg h1, if_neg h2, if_pos h3, bump_bump]
theorem strE_back_end (zs : List Int) (i : Nat) (h : i < zs.length) (hc : zs.getD i 0 = 92) (he : zs.length = i + 1) : strE zs i = (i + 1, false) := by
  unfold strE; rw [drop_cons zs i h, strN.eq_def, List.drop_eq_nil_of_le (by omega)]; simp only [hc]; rfl
theorem strE_back_esc (zs : List Int) (i : Nat) (h : i + 1 < zs.length) (hc : zs.getD i 0 = 92) (hd : escB (zs.getD (i + 1) 0) = true) : strE zs i = strE zs (i + 2) := by
  unfold strE; rw [drop_cons zs i (by omega), drop_cons zs (i + 1) h, strN.eq_def]; simp only [hc]
  rw [if_neg (by omega), if_neg (by omega), if_neg (by omega), if_pos hd, bump_bump]
theorem strE_back_bad (zs : List Int) (i : Nat) (h : i + 1 < zs.length) (hc : zs.getD i 0 = 92) (hd : escB (zs.getD (i + 1) 0) = false) (hu : zs.getD (i + 1) 0 ≠ 117) : strE zs i = (i + 1, false) := by
  unfold strE; rw [drop_cons zs i (by omega), drop_cons zs (i + 1) h, strN.eq_def]; simp only [hc]
  rw [if_neg (by omega), if_neg (by omega), if_neg (by omega), if_neg (by rw [hd]; decide), if_pos hu]; rfl
theorem strE_u_short (zs : List Int) (i : Nat) (h : i + 1 < zs.length) (hc : zs.getD i 0 = 92) (hu : zs.getD (i + 1) 0 = 117) (hl : zs.length ≤ i + 5) : strE zs i = (i + 1, false) := by
  have hd : escB (zs.getD (i + 1) 0) = false := by rw [hu]; rfl
  unfold strE; rw [drop_cons zs i (by omega), drop_cons zs (i + 1) h, strN.eq_def]; simp only [hc]
  rw [if_neg (by omega), if_neg (by omega), if_neg (by omega), if_neg (by rw [hd]; decide), if_neg (by omega)]
  have hlen : (zs.drop (i + 1 + 1)).length ≤ 3 := by simp; omega
  match hq : zs.drop (i + 1 + 1), hlen with
  | [], _ => simp [bump]
  | [_], _ => simp [bump]
  | [_, _], _ => simp [bump]
  | [_, _, _], _ => simp [bump]
  | _ :: _ :: _ :: _ :: _, hlen => simp at hlen
theorem strE_u_long (zs : List Int) (i : Nat) (h : i + 5 < zs.length) (hc : zs.getD i 0 = 92) (hu : zs.getD (i + 1) 0 = 117) :
    strE zs i = if (hexB (zs.getD (i + 2) 0) && (hexB (zs.getD (i + 3) 0) && (hexB (zs.getD (i + 4) 0) && hexB (zs.getD (i + 5) 0)))) = true then strE zs (i + 6) else (i + 1, false) := by
  have hd : escB (zs.getD (i + 1) 0) = false := by rw [hu]; rfl
  unfold strE; rw [drop_cons zs i (by omega), drop_cons zs (i + 1) (by omega), drop_cons zs (i + 1 + 1) (by omega), drop_cons zs (i + 1 + 1 + 1) (by omega), drop_cons zs (i + 1 + 1 + 1 + 1) (by omega), drop_cons zs (i + 1 + 1 + 1 + 1 + 1) (by omega), strN.eq_def]
  simp only [hc]
  rw [if_neg (by omega), if_neg (by omega), if_neg (by omega), if_neg (by rw [hd]; decide), if_neg (by omega)]
  split
  · rw [bump_bump]
  · rfl

end Go.Proofs.Qxb6001341aMods.Pl
