/-
  THE PLAIN LAWS, 6: a number written by JSON's grammar is read whole, stretch by stretch.
-/
import Derived.Test.Qxb6001341aModsPlain5
namespace Go.Proofs.Qxb6001341aMods.Pl

/-- The list does not begin with a byte of that kind. -/
def noHead (f : Int → Bool) : List Int → Prop
  | [] => True
  | c :: _ => f c = false

def stopB (c : Int) : Bool := digB c || (c == 46 || (c == 101 || c == 69))

theorem digN_digits : ∀ (l : List Int) (_ : ∀ z ∈ l, digB z = true) (r : List Int) (_ : noHead digB r), digN (l ++ r) = l.length
  | [], _, [], _ => by simp [digN]
  | [], _, c :: r, hr => by
    have : digB c = false := hr
    simp [digN, this]
  | c :: l, h, r, hr => by
    rw [List.cons_append, digN, if_pos (h c (by simp)), digN_digits l (fun z hz => h z (by simp [hz])) r hr, List.length_cons]
theorem digE_from (pre l r : List Int) (n : Nat) (h : pre.length = n) (hl : ∀ z ∈ l, digB z = true) (hr : noHead digB r) : digE (pre ++ (l ++ r)) n = n + l.length := by
  have := digE_pre pre (l ++ r) 0
  rw [Nat.add_zero, h] at this
  rw [this]; unfold digE
  rw [List.drop_zero, digN_digits l hl r hr, Nat.zero_add]

/-- The sign has been written (or none is wanted). -/
def SgnOk (T : List Int) : Prop := T.length ≤ 1 ∧ ∀ S, noHead (fun c => c == 45) S → numE (T ++ S) 0 = intE (T ++ S) T.length
/-- The integer part has been written. -/
def IntOk (T : List Int) : Prop := ∀ S, noHead digB S → numE (T ++ S) 0 = fracE (T ++ S) T.length
/-- The fraction has been written (or none is wanted). -/
def FracOk (T : List Int) : Prop := ∀ S, noHead (fun c => digB c || c == 46) S → numE (T ++ S) 0 = expE (T ++ S) T.length
/-- The number has been written. -/
def NumOk (T : List Int) : Prop := ∀ S, noHead stopB S → numE (T ++ S) 0 = (T.length, true)

theorem sgn_none : SgnOk [] := by
  refine ⟨by simp, fun S hS => ?_⟩
  unfold numE
  rw [List.nil_append]
  have : at? S 0 45 = false := by
    cases S with
    | nil => rfl
    | cons c r => have : (c == 45) = false := hS; simpa [at?] using this
  rw [this]; rfl
theorem sgn_some : SgnOk [45] := by
  refine ⟨by simp, fun S _ => ?_⟩
  unfold numE
  have : at? ([45] ++ S) 0 45 = true := by simp [at?]
  rw [this]; rfl

theorem head_get {D : List Int} (h : 0 < D.length) : ∃ c r, D = c :: r ∧ D.getD 0 0 = c := by
  cases D with
  | nil => simp at h
  | cons c r => exact ⟨c, r, rfl, rfl⟩

theorem digB_bds {c : Int} (h : digB c = true) : 48 ≤ c ∧ c ≤ 57 := by simpa [digB] using h

theorem int_step {T D : List Int} (hT : SgnOk T) (h0 : 0 < D.length) (hd : ∀ z ∈ D, digB z = true) (h48 : D.getD 0 0 = 48 → D.length = 1) : IntOk (T ++ D) := by
  intro S hS
  obtain ⟨c, r, rfl, hc⟩ := head_get h0
  have hcd := digB_bds (hd c (by simp))
  rw [List.append_assoc, hT.2 ((c :: r) ++ S) (by show (c == 45) = false; exact beq_eq_false_iff_ne.2 (by omega))]
  unfold intE
  have hat : at? (T ++ ((c :: r) ++ S)) T.length 48 = (c == 48) := by rw [at_from T _ _ rfl]; simp [at?]
  rw [hat]
  by_cases e : c = 48
  · subst e
    have hl := h48 hc
    have : r = [] := by simpa using hl
    subst this
    simp
  · have q : (c == 48) = false := beq_eq_false_iff_ne.2 e
    have hdE := digE_from T (c :: r) S T.length rfl hd hS
    rw [q, hdE, if_neg (by decide), if_neg (by simp)]
    rw [List.length_append]

theorem frac_none {T : List Int} (hT : IntOk T) : FracOk T := by
  intro S hS
  have h1 : noHead digB S := by
    cases S with
    | nil => trivial
    | cons c r => have h : (digB c || c == 46) = false := hS; exact (Bool.or_eq_false_iff.1 h).1
  have h2 : at? S 0 46 = false := by
    cases S with
    | nil => rfl
    | cons c r => have h : (digB c || c == 46) = false := hS; simpa [at?] using (Bool.or_eq_false_iff.1 h).2
  rw [hT S h1]
  unfold fracE
  rw [at_from T S _ rfl, h2]; rfl
theorem frac_some {T Z : List Int} (hT : IntOk T) (h0 : 0 < Z.length) (hd : ∀ z ∈ Z, digB z = true) : FracOk ((T ++ [46]) ++ Z) := by
  intro S hS
  have h1 : noHead digB S := by
    cases S with
    | nil => trivial
    | cons c r => have h : (digB c || c == 46) = false := hS; exact (Bool.or_eq_false_iff.1 h).1
  have e : ((T ++ [46]) ++ Z) ++ S = T ++ (46 :: (Z ++ S)) := by simp
  have e2 : T ++ (46 :: (Z ++ S)) = (T ++ [46]) ++ (Z ++ S) := by simp
  rw [e, hT (46 :: (Z ++ S)) (by show digB 46 = false; decide)]
  unfold fracE
  have hdE := digE_from (T ++ [46]) Z S (T.length + 1) (by simp) hd h1
  rw [← e2] at hdE
  rw [at_from T _ _ rfl, hdE, if_pos (by rfl), if_neg (by omega)]
  congr 1; simp; omega

theorem exp_none {T : List Int} (hT : FracOk T) : NumOk T := by
  intro S hS
  have key : noHead (fun c => digB c || c == 46) S ∧ at? S 0 101 = false ∧ at? S 0 69 = false := by
    cases S with
    | nil => exact ⟨trivial, rfl, rfl⟩
    | cons c r =>
      have h : (digB c || (c == 46 || (c == 101 || c == 69))) = false := hS
      have a := Bool.or_eq_false_iff.1 h
      have b := Bool.or_eq_false_iff.1 a.2
      have d := Bool.or_eq_false_iff.1 b.2
      refine ⟨?_, by simpa [at?] using d.1, by simpa [at?] using d.2⟩
      show (digB c || c == 46) = false
      rw [a.1, b.1]; rfl
  rw [hT S key.1]
  unfold expE
  rw [at_from T S _ rfl, at_from T S _ rfl, key.2.1, key.2.2]; rfl

/-- The exponent: its letter, its sign (or none), its digits. -/
theorem exp_some {T G Z : List Int} {x : Int} (hT : FracOk T) (hx : x = 101 ∨ x = 69) (hG : G = [] ∨ G = [43] ∨ G = [45]) (h0 : 0 < Z.length) (hd : ∀ z ∈ Z, digB z = true) : NumOk (((T ++ [x]) ++ G) ++ Z) := by
  intro S hS
  have h1 : noHead digB S := by
    cases S with
    | nil => trivial
    | cons c r => have h : (digB c || (c == 46 || (c == 101 || c == 69))) = false := hS; exact (Bool.or_eq_false_iff.1 h).1
  have e : (((T ++ [x]) ++ G) ++ Z) ++ S = T ++ (x :: (G ++ (Z ++ S))) := by simp
  have e2 : T ++ (x :: (G ++ (Z ++ S))) = (T ++ [x]) ++ (G ++ (Z ++ S)) := by simp
  have e3 : T ++ (x :: (G ++ (Z ++ S))) = ((T ++ [x]) ++ G) ++ (Z ++ S) := by simp
  rw [e, hT (x :: (G ++ (Z ++ S))) (by show (digB x || x == 46) = false; rcases hx with rfl | rfl <;> decide)]
  have hdE := digE_from ((T ++ [x]) ++ G) Z S (T.length + 1 + G.length) (by simp; omega) hd h1
  rw [← e3] at hdE
  have hx1 : (at? (T ++ (x :: (G ++ (Z ++ S)))) T.length 101 || at? (T ++ (x :: (G ++ (Z ++ S)))) T.length 69) = true := by
    rw [at_from T _ _ rfl, at_from T _ _ rfl]
    rcases hx with rfl | rfl <;> simp [at?]
  have hs : ∀ c, at? (T ++ (x :: (G ++ (Z ++ S)))) (T.length + 1) c = at? (G ++ (Z ++ S)) 0 c := by
    intro c; rw [e2, at_from (T ++ [x]) _ (T.length + 1) (by simp)]
  unfold expE
  rw [hx1, if_pos rfl, hs, hs]
  obtain ⟨c, r, rfl, _⟩ := head_get h0
  have hcd : 48 ≤ c ∧ c ≤ 57 := by simpa [digB] using hd c (by simp)
  rcases hG with rfl | rfl | rfl
  · have q1 : at? ([] ++ ((c :: r) ++ S)) 0 43 = false := by simp [at?]; omega
    have q2 : at? ([] ++ ((c :: r) ++ S)) 0 45 = false := by simp [at?]; omega
    rw [q1, q2]
    simp only [List.length_nil, Nat.add_zero] at hdE
    simp only [Bool.or_false, Bool.false_eq_true, if_false]
    rw [hdE, if_neg (by simp)]
    simp; omega
  · have q1 : at? ([43] ++ ((c :: r) ++ S)) 0 43 = true := by simp [at?]
    rw [q1]
    simp only [List.length_singleton] at hdE
    simp only [Bool.true_or, if_true]
    rw [show T.length + 2 = T.length + 1 + 1 from rfl, hdE, if_neg (by simp)]
    simp; omega
  · have q1 : at? ([45] ++ ((c :: r) ++ S)) 0 45 = true := by simp [at?]
    rw [q1]
    simp only [List.length_singleton] at hdE
    simp only [Bool.or_true, if_true]
    rw [show T.length + 2 = T.length + 1 + 1 from rfl, hdE, if_neg (by simp)]
    simp; omega

end Go.Proofs.Qxb6001341aMods.Pl
