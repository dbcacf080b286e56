/-
  memberName; the three exported readers; each over whatever slice of bytes ('Sl'), nil and empty ones too.
-/
import Derived.Test.Qxb6001341aModsNumA
import Derived.Test.Qxb6001341aModsStrA
import Derived.Test.Qxb6001341aModsPlain2
namespace Go.Proofs.Qxb6001341aMods
open Go.RowKit
open Pl (digB hexB spB digE spE numE strE memE at?)

theorem stringEnd_at (b off n cap : Nat) (zs : List Int) (x : Int) (i r : Nat) (ok : Bool) (w : World) (HN : Hid (zs.length = n)) (hm : n ≤ maxLen) (hi : i ≤ n) (hx : x = (i : Int)) (HR : Hid (strE zs i = (r, ok)))
    (HC : Hid (∀ j, j < n → w.cell? ⟨b, off + j, none⟩ = some (.int .u8 (zs.getD j 0)))) :
    Calls Trym.prog 34 #[.slice (some ⟨b, off, none⟩) n cap, .int .i64 x] w fun e w' => e = .returned (.tuple #[.int .i64 r, .bool ok]) ∧ w' = w := by
  subst hx
  have h := stringEnd_row b off n cap zs i w HN hm hi HC
  rw [HR.out] at h; exact h
theorem skipSpace_to (b off n cap : Nat) (zs : List Int) (x : Int) (i r : Nat) (w : World) (HN : Hid (zs.length = n)) (hm : n ≤ maxLen) (hi : i ≤ n) (hx : x = (i : Int)) (HR : Hid (spE zs i = r))
    (HC : Hid (∀ j, j < n → w.cell? ⟨b, off + j, none⟩ = some (.int .u8 (zs.getD j 0)))) :
    Calls Trym.prog 40 #[.slice (some ⟨b, off, none⟩) n cap, .int .i64 x] w fun e w' => e = .returned (.int .i64 r) ∧ w' = w := by
  have h := skipSpace_at b off n cap zs x i w HN hm hi hx HC
  rw [HR.out] at h; exact h

theorem memberName_empty (a : Option Addr) (cap : Nat) (w : World) :
    Calls Trym.prog 36 #[.slice a 0 cap, .int .i64 0] w fun e w' => e = .returned (.tuple #[.int .i64 0, .bool false]) ∧ w' = w := by
  go_enter Trym.func36, Trym.ntmps36
  go_wp2_with (go_at_call 40; refine (skipSpace_empty _ _ _).mono ?_; rintro e w' ⟨rfl, rfl⟩)
  go_ret2
  exact ⟨rfl, rfl⟩

set_option maxHeartbeats 1000000 in
theorem memberName_row (b off n cap : Nat) (zs : List Int) (i : Nat) (w : World) (HN : Hid (zs.length = n)) (hm : n ≤ maxLen) (hi : i ≤ n)
    (HC : Hid (∀ j, j < n → w.cell? ⟨b, off + j, none⟩ = some (.int .u8 (zs.getD j 0)))) :
    Calls Trym.prog 36 #[.slice (some ⟨b, off, none⟩) n cap, .int .i64 i] w fun e w' => e = .returned (.tuple #[.int .i64 (memE zs i).1, .bool (memE zs i).2]) ∧ w' = w := by
  have hmm := hm
  unfold maxLen at hm
  obtain ⟨j, HJ, hj1, hj2⟩ : ∃ j, Hid (spE zs i = j) ∧ i ≤ j ∧ j ≤ n := ⟨_, rfl, Pl.spE_ge zs i, by have := Pl.spE_le zs i (by rw [HN.out]; omega); rw [HN.out] at this; exact this⟩
  have HM : Hid (memE zs i = if at? zs j 34 then
    if (strE zs (j + 1)).2 then
      if at? zs (spE zs (strE zs (j + 1)).1) 58 then (spE zs (strE zs (j + 1)).1 + 1, true) else (spE zs (strE zs (j + 1)).1, false)
    else ((strE zs (j + 1)).1, false)
  else (j, false)) := by show _ = _; unfold memE; rw [HJ.out]
  by_cases hlt : j < n
  · obtain ⟨c, HK, hck⟩ := byteAt HC hlt
    have HA : Hid (at? zs j 34 = (c == 34)) := by rw [← HK.out]; exact Pl.at_lt zs j 34 (by rw [HN.out]; omega)
    have hne : (((j : Int)) == (n : Int)) = false := beq_eq_false_iff_ne.2 (by omega)
    by_cases h34 : c = 34
    · subst h34
      obtain ⟨p, HP, hp1, hp2⟩ : ∃ p, Hid (strE zs (j + 1) = p) ∧ j + 1 ≤ p.1 ∧ p.1 ≤ n := ⟨_, rfl, Pl.strE_ge zs (j + 1), by have := Pl.strE_le zs (j + 1) (by rw [HN.out]; omega); rw [HN.out] at this; exact this⟩
      obtain ⟨r, ok⟩ := p
      simp only [] at hp1 hp2
      cases ok
      · have HF : Hid (memE zs i = (r, false)) := by show _ = _; rw [HM.out, HA.out, HP.out]; rfl
        go_enter Trym.func36, Trym.ntmps36
        go_wp2_with (first | (go_at_call 40; refine (skipSpace_to _ _ _ _ zs _ i j _ HN hmm hi rfl HJ HC).mono ?_; rintro e w' ⟨rfl, rfl⟩) | (go_at_call 34; refine (stringEnd_at _ _ _ _ zs _ (j + 1) r false _ HN hmm hlt (by omega) HP HC).mono ?_; rintro e w' ⟨rfl, rfl⟩))
        go_ret2
        exact ⟨ret_pair (by rw [HF.out]) (by rw [HF.out]), rfl⟩
      obtain ⟨k, HS, hk1, hk2⟩ : ∃ k, Hid (spE zs r = k) ∧ r ≤ k ∧ k ≤ n := ⟨_, rfl, Pl.spE_ge zs r, by have := Pl.spE_le zs r (by rw [HN.out]; omega); rw [HN.out] at this; exact this⟩
      have HM2 : Hid (memE zs i = if at? zs k 58 then (k + 1, true) else (k, false)) := by show _ = _; rw [HM.out, HA.out, HP.out, HS.out]; rfl
      by_cases hlk : k < n
      · obtain ⟨d, HD, hcd⟩ := byteAt HC hlk
        have HB : Hid (at? zs k 58 = (d == 58)) := by rw [← HD.out]; exact Pl.at_lt zs k 58 (by rw [HN.out]; omega)
        have hnk : (((k : Int)) == (n : Int)) = false := beq_eq_false_iff_ne.2 (by omega)
        by_cases h58 : d = 58
        · subst h58
          have HF : Hid (memE zs i = (k + 1, true)) := by show _ = _; rw [HM2.out, HB.out]; rfl
          go_enter Trym.func36, Trym.ntmps36
          go_wp2_with fail
          refine (skipSpace_to _ _ _ _ zs _ i j _ HN hmm hi rfl HJ HC).mono ?_
          rintro e w' ⟨rfl, rfl⟩
          go_wp2_with fail
          refine (stringEnd_at _ _ _ _ zs _ (j + 1) r true _ HN hmm hlt (by omega) HP HC).mono ?_
          rintro e w' ⟨rfl, rfl⟩
          go_wp2_with fail
          refine (skipSpace_to _ _ _ _ zs _ r k _ HN hmm hp2 rfl HS HC).mono ?_
          rintro e w' ⟨rfl, rfl⟩
          go_wp2_with fail
          go_ret2
          exact ⟨ret_pair (by rw [HF.out]; simp) (by rw [HF.out]), rfl⟩
        · have e58 : (d == 58) = false := beq_eq_false_iff_ne.2 h58
          have HF : Hid (memE zs i = (k, false)) := by show _ = _; rw [HM2.out, HB.out, e58]; rfl
          clear h58
          go_enter Trym.func36, Trym.ntmps36
          go_wp2_with fail
          refine (skipSpace_to _ _ _ _ zs _ i j _ HN hmm hi rfl HJ HC).mono ?_
          rintro e w' ⟨rfl, rfl⟩
          go_wp2_with fail
          refine (stringEnd_at _ _ _ _ zs _ (j + 1) r true _ HN hmm hlt (by omega) HP HC).mono ?_
          rintro e w' ⟨rfl, rfl⟩
          go_wp2_with fail
          refine (skipSpace_to _ _ _ _ zs _ r k _ HN hmm hp2 rfl HS HC).mono ?_
          rintro e w' ⟨rfl, rfl⟩
          go_wp2_with fail
          go_ret2
          exact ⟨ret_pair (by rw [HF.out]) (by rw [HF.out]), rfl⟩
      · have HF : Hid (memE zs i = (k, false)) := by show _ = _; rw [HM2.out, Pl.at_ge zs k 58 (by rw [HN.out]; omega)]; rfl
        have hek : (((k : Int)) == (n : Int)) = true := beq_iff_eq.2 (by omega)
        go_enter Trym.func36, Trym.ntmps36
        go_wp2_with fail
        refine (skipSpace_to _ _ _ _ zs _ i j _ HN hmm hi rfl HJ HC).mono ?_
        rintro e w' ⟨rfl, rfl⟩
        go_wp2_with fail
        refine (stringEnd_at _ _ _ _ zs _ (j + 1) r true _ HN hmm hlt (by omega) HP HC).mono ?_
        rintro e w' ⟨rfl, rfl⟩
        go_wp2_with fail
        refine (skipSpace_to _ _ _ _ zs _ r k _ HN hmm hp2 rfl HS HC).mono ?_
        rintro e w' ⟨rfl, rfl⟩
        go_wp2_with fail
        go_ret2
        exact ⟨ret_pair (by rw [HF.out]) (by rw [HF.out]), rfl⟩
    · have e34 : (c == 34) = false := beq_eq_false_iff_ne.2 h34
      have HF : Hid (memE zs i = (j, false)) := by show _ = _; rw [HM.out, HA.out, e34]; rfl
      clear h34
      go_enter Trym.func36, Trym.ntmps36
      go_wp2_with (go_at_call 40; refine (skipSpace_to _ _ _ _ zs _ i j _ HN hmm hi rfl HJ HC).mono ?_; rintro e w' ⟨rfl, rfl⟩)
      go_ret2
      exact ⟨ret_pair (by rw [HF.out]) (by rw [HF.out]), rfl⟩
  · have HF : Hid (memE zs i = (j, false)) := by show _ = _; rw [HM.out, Pl.at_ge zs j 34 (by rw [HN.out]; omega)]; rfl
    have hej : (((j : Int)) == (n : Int)) = true := beq_iff_eq.2 (by omega)
    go_enter Trym.func36, Trym.ntmps36
    go_wp2_with (go_at_call 40; refine (skipSpace_to _ _ _ _ zs _ i j _ HN hmm hi rfl HJ HC).mono ?_; rintro e w' ⟨rfl, rfl⟩)
    go_ret2
    exact ⟨ret_pair (by rw [HF.out]) (by rw [HF.out]), rfl⟩

end Go.Proofs.Qxb6001341aMods
