/-
  numberEnd over a slice that is not empty: its contract. The ways are joined by cuts: behind the sign, behind the integer part, behind the fraction.
-/
import Derived.Test.Qxb6001341aModsRead
import Derived.Deep.CutBlock
namespace Go.Proofs.Qxb6001341aMods
open Go.RowKit
open Pl (digB hexB spB digE spE numE intE fracE expE at?)

theorem ret_pair {a b : Int} {p q : Bool} (h : a = b) (k : p = q) : Ending.returned (.tuple #[.int .i64 a, .bool p]) = .returned (.tuple #[.int .i64 b, .bool q]) := by rw [h, k]
theorem ne_beq {a b : Nat} (h : a ≠ b) : (((a : Int)) == (b : Int)) = false := beq_eq_false_iff_ne.2 (by omega)

set_option maxRecDepth 20000 in
theorem numberEnd_row (b off n cap : Nat) (zs : List Int) (i : Nat) (w : World) (HN : Hid (zs.length = n)) (hm : n ≤ maxLen) (hi : i ≤ n)
    (HC : Hid (∀ j, j < n → w.cell? ⟨b, off + j, none⟩ = some (.int .u8 (zs.getD j 0)))) :
    Calls Trym.prog 35 #[.slice (some ⟨b, off, none⟩) n cap, .int .i64 i] w fun e w' => e = .returned (.tuple #[.int .i64 (numE zs i).1, .bool (numE zs i).2]) ∧ w' = w := by
  have hmm := hm
  unfold maxLen at hm
  go_enter Trym.func35, Trym.ntmps35
  go_upto_region 1 with fail
  go_cut [18] from 8 to 18 (fun s w' => s = .bool (at? zs i 45) ∧ w' = w)
  case first =>
    by_cases hlt : i < n
    · obtain ⟨c, HK, hck⟩ := byteAt HC hlt
      have HA : Hid (at? zs i 45 = (c == 45)) := by rw [← HK.out]; exact Pl.at_lt zs i 45 (by rw [HN.out]; omega)
      go_wp2_with fail
      go_meet
      case rel => exact ⟨by rw [HA.out], rfl⟩
    · have HA : Hid (at? zs i 45 = false) := Pl.at_ge zs i 45 (by rw [HN.out]; omega)
      go_wp2_with fail
      go_meet
      case rel => exact ⟨by rw [HA.out], rfl⟩
  case rest =>
  obtain ⟨rfl, rfl⟩ := hcut
  go_upto_if 18 with fail
  go_cut [1, 18] from 8 to 20 (fun s s18 w' => (∃ k : Nat, k ≤ n ∧ s = .int .i64 k ∧ Hid (numE zs i = intE zs k)) ∧ w' = wc)
  case first =>
    cases hB : at? zs i 45
    · have HF : Hid (numE zs i = intE zs i) := by unfold numE; rw [hB]; rfl
      clear hB
      go_wp2_with fail
      go_meet
      case rel => exact ⟨⟨i, hi, rfl, HF⟩, rfl⟩
    · have HF : Hid (numE zs i = intE zs (i + 1)) := by unfold numE; rw [hB]; rfl
      have hlt : i < n := by
        by_cases h : i < n
        · exact h
        · rw [Pl.at_ge zs i 45 (by rw [HN.out]; omega)] at hB; cases hB
      clear hB
      go_wp2_with fail
      go_meet
      case rel => exact ⟨⟨i + 1, by omega, by go_num, HF⟩, rfl⟩
  case rest =>
  obtain ⟨⟨k, hk, rfl, HI⟩, rfl⟩ := hcut
  go_upto_block 0 with fail
  go_cut [1] from 8 to 50 (fun s w' => (∃ k : Nat, k ≤ n ∧ s = .int .i64 k ∧ Hid (numE zs i = fracE zs k)) ∧ w' = wc)
  case first =>
    by_cases hlt : k < n
    · obtain ⟨c, HK, hck⟩ := byteAt HC hlt
      have HA : Hid (at? zs k 48 = (c == 48)) := by rw [← HK.out]; exact Pl.at_lt zs k 48 (by rw [HN.out]; omega)
      by_cases h48 : c = 48
      · subst h48
        have HF : Hid (numE zs i = fracE zs (k + 1)) := by show _ = _; rw [HI.out]; unfold intE; rw [HA.out]; rfl
        go_wp2_with fail
        go_meet
        case rel => exact ⟨⟨k + 1, by omega, by go_num, HF⟩, rfl⟩
      · have e48 : (c == 48) = false := beq_eq_false_iff_ne.2 h48
        cases hd : digB c
        · have HD : digE zs k = k := Pl.digE_stop zs k (by rw [HN.out]; omega) (by rw [HK.out]; exact hd)
          have HF : Hid (numE zs i = (k, false)) := by show _ = _; rw [HI.out]; unfold intE; rw [HA.out, e48, HD]; simp
          clear HD h48
          go_wp2_with (go_at_call 38; refine (isDigit_calls _ _).mono ?_; rintro e w' ⟨rfl, rfl⟩)
          go_ret2
          exact ⟨ret_pair (by rw [HF.out]) (by rw [HF.out]), rfl⟩
        · have h1 : digE zs k = digE zs (k + 1) := Pl.digE_step zs k (by rw [HN.out]; omega) (by rw [HK.out]; exact hd)
          have h2 := Pl.digE_ge zs (k + 1)
          have h3 := Pl.digE_le zs (k + 1) (by rw [HN.out]; omega)
          rw [← h1] at h2 h3
          rw [HN.out] at h3
          have HF : Hid (numE zs i = fracE zs (digE zs k)) := by show _ = _; rw [HI.out]; unfold intE; rw [HA.out, e48, if_neg (show ¬ digE zs k = k by omega)]; simp
          clear h1 h48
          go_wp2_with (first | (go_at_call 38; refine (isDigit_calls _ _).mono ?_; rintro e w' ⟨rfl, rfl⟩) | (go_at_call 39; refine (digitsEnd_at _ _ _ _ zs _ k _ HN hmm hk rfl HC).mono ?_; rintro e w' ⟨rfl, rfl⟩))
          go_meet
          case rel => exact ⟨⟨digE zs k, h3, rfl, HF⟩, rfl⟩
    · have hd : digE zs k = k := Pl.digE_end zs k (by rw [HN.out]; omega)
      have HF : Hid (numE zs i = (k, false)) := by show _ = _; rw [HI.out]; unfold intE; rw [Pl.at_ge zs k 48 (by rw [HN.out]; omega), hd]; simp
      clear hd
      go_wp2_with fail
      go_ret2
      exact ⟨ret_pair (by rw [HF.out]) (by rw [HF.out]), rfl⟩
  case rest =>
  obtain ⟨⟨k2, hk2, rfl, HI2⟩, rfl⟩ := hcut
  clear HI hk
  go_upto_region 8 with fail
  go_cut [61] from 8 to 61 (fun s w' => s = .bool (at? zs k2 46) ∧ w' = wc)
  case first =>
    by_cases hlt : k2 < n
    · obtain ⟨c, HK, hck⟩ := byteAt HC hlt
      have HA : Hid (at? zs k2 46 = (c == 46)) := by rw [← HK.out]; exact Pl.at_lt zs k2 46 (by rw [HN.out]; omega)
      go_wp2_with fail
      go_meet
      case rel => exact ⟨by rw [HA.out], rfl⟩
    · have HA : Hid (at? zs k2 46 = false) := Pl.at_ge zs k2 46 (by rw [HN.out]; omega)
      go_wp2_with fail
      go_meet
      case rel => exact ⟨by rw [HA.out], rfl⟩
  case rest =>
  obtain ⟨rfl, rfl⟩ := hcut
  go_upto_if 61 with fail
  go_cut [1, 6, 61] from 8 to 71 (fun s s6 s61 w' => (∃ k : Nat, k ≤ n ∧ s = .int .i64 k ∧ Hid (numE zs i = expE zs k)) ∧ w' = wc)
  case first =>
    cases hB : at? zs k2 46
    · have HF : Hid (numE zs i = expE zs k2) := by show _ = _; rw [HI2.out]; unfold fracE; rw [hB]; rfl
      clear hB
      go_wp2_with fail
      go_meet
      case rel => exact ⟨⟨k2, hk2, rfl, HF⟩, rfl⟩
    · have hlt : k2 < n := by
        by_cases h : k2 < n
        · exact h
        · rw [Pl.at_ge zs k2 46 (by rw [HN.out]; omega)] at hB; cases hB
      have h2 := Pl.digE_ge zs (k2 + 1)
      have h3 := Pl.digE_le zs (k2 + 1) (by rw [HN.out]; omega)
      rw [HN.out] at h3
      by_cases hE : digE zs (k2 + 1) = k2 + 1
      · have HF : Hid (numE zs i = (k2 + 1, false)) := by show _ = _; rw [HI2.out]; unfold fracE; rw [hB, hE]; simp
        have HE : Hid (digE zs (k2 + 1) = k2 + 1) := hE
        clear hB hE
        go_wp2_with (go_at_call 39; refine (digitsEnd_at _ _ _ _ zs _ (k2 + 1) _ HN hmm hlt (by omega) HC).mono ?_; rw [HE.out]; rintro e w' ⟨rfl, rfl⟩)
        go_ret2
        exact ⟨ret_pair (by rw [HF.out]; simp) (by rw [HF.out]), rfl⟩
      · have HF : Hid (numE zs i = expE zs (digE zs (k2 + 1))) := by show _ = _; rw [HI2.out]; unfold fracE; rw [hB, if_neg hE]; simp
        clear hB
        go_wp2_with (go_at_call 39; refine (digitsEnd_at _ _ _ _ zs _ (k2 + 1) _ HN hmm hlt (by omega) HC).mono ?_; rintro e w' ⟨rfl, rfl⟩)
        go_meet
        case rel => exact ⟨⟨digE zs (k2 + 1), h3, rfl, HF⟩, rfl⟩
  case rest =>
  obtain ⟨⟨k3, hk3, rfl, HI3⟩, rfl⟩ := hcut
  clear HI2 hk2
  go_upto_region 13 with fail
  go_cut [89] from 8 to 89 (fun s w' => s = .bool (at? zs k3 101 || at? zs k3 69) ∧ w' = wc)
  case first =>
    by_cases hlt : k3 < n
    · obtain ⟨c, HK, hck⟩ := byteAt HC hlt
      have HA : Hid (at? zs k3 101 = (c == 101)) := by rw [← HK.out]; exact Pl.at_lt zs k3 101 (by rw [HN.out]; omega)
      have HB : Hid (at? zs k3 69 = (c == 69)) := by rw [← HK.out]; exact Pl.at_lt zs k3 69 (by rw [HN.out]; omega)
      by_cases h1 : c = 101
      · subst h1
        go_wp2_with fail
        go_meet
        case rel => exact ⟨by rw [HA.out]; rfl, rfl⟩
      · have e1 : (c == 101) = false := beq_eq_false_iff_ne.2 h1
        go_wp2_with fail
        go_meet
        case rel => exact ⟨by rw [HA.out, HB.out, e1]; rfl, rfl⟩
    · have HA : Hid (at? zs k3 101 = false) := Pl.at_ge zs k3 101 (by rw [HN.out]; omega)
      have HB : Hid (at? zs k3 69 = false) := Pl.at_ge zs k3 69 (by rw [HN.out]; omega)
      go_wp2_with fail
      go_meet
      case rel => exact ⟨by rw [HA.out, HB.out]; rfl, rfl⟩
  case rest =>
  obtain ⟨rfl, rfl⟩ := hcut
  cases hB : (at? zs k3 101 || at? zs k3 69)
  · have HF : Hid (numE zs i = (k3, true)) := by show _ = _; rw [HI3.out]; unfold expE; rw [hB]; rfl
    clear hB
    go_wp2_with fail
    go_ret2
    exact ⟨ret_pair (by rw [HF.out]) (by rw [HF.out]), rfl⟩
  have hlt : k3 < n := by
    by_cases h : k3 < n
    · exact h
    · rw [Pl.at_ge zs k3 101 (by rw [HN.out]; omega), Pl.at_ge zs k3 69 (by rw [HN.out]; omega)] at hB; cases hB
  have HX : Hid (numE zs i = if at? zs (k3 + 1) 43 || at? zs (k3 + 1) 45 then
      if digE zs (k3 + 2) = k3 + 2 then (k3 + 2, false) else (digE zs (k3 + 2), true)
    else
      if digE zs (k3 + 1) = k3 + 1 then (k3 + 1, false) else (digE zs (k3 + 1), true)) := by show _ = _; rw [HI3.out]; unfold expE; rw [hB]; simp
  clear hB
  go_upto_region 15 with fail
  go_cut [109] from 8 to 109 (fun s w' => s = .bool (at? zs (k3 + 1) 43 || at? zs (k3 + 1) 45) ∧ w' = wc)
  case first =>
    by_cases hlt1 : k3 + 1 < n
    · obtain ⟨c, HK, hck⟩ := byteAt HC hlt1
      have HA : Hid (at? zs (k3 + 1) 43 = (c == 43)) := by rw [← HK.out]; exact Pl.at_lt zs (k3 + 1) 43 (by rw [HN.out]; omega)
      have HB : Hid (at? zs (k3 + 1) 45 = (c == 45)) := by rw [← HK.out]; exact Pl.at_lt zs (k3 + 1) 45 (by rw [HN.out]; omega)
      by_cases h1 : c = 43
      · subst h1
        go_wp2_with fail
        go_meet
        case rel => exact ⟨by rw [HA.out]; rfl, rfl⟩
      · have e1 : (c == 43) = false := beq_eq_false_iff_ne.2 h1
        go_wp2_with fail
        go_meet
        case rel => exact ⟨by rw [HA.out, HB.out, e1]; rfl, rfl⟩
    · have HA : Hid (at? zs (k3 + 1) 43 = false) := Pl.at_ge zs (k3 + 1) 43 (by rw [HN.out]; omega)
      have HB : Hid (at? zs (k3 + 1) 45 = false) := Pl.at_ge zs (k3 + 1) 45 (by rw [HN.out]; omega)
      go_wp2_with fail
      go_meet
      case rel => exact ⟨by rw [HA.out, HB.out]; rfl, rfl⟩
  case rest =>
  obtain ⟨rfl, rfl⟩ := hcut
  go_upto_if 109 with fail
  go_cut [1, 109] from 8 to 111 (fun s s109 w' => (∃ k : Nat, k ≤ n ∧ s = .int .i64 k ∧ Hid (numE zs i = if digE zs k = k then (k, false) else (digE zs k, true))) ∧ w' = wc)
  case first =>
    cases hB : (at? zs (k3 + 1) 43 || at? zs (k3 + 1) 45)
    · have HF : Hid (numE zs i = if digE zs (k3 + 1) = k3 + 1 then (k3 + 1, false) else (digE zs (k3 + 1), true)) := by show _ = _; rw [HX.out, hB]; rfl
      clear hB
      go_wp2_with fail
      go_meet
      case rel => exact ⟨⟨k3 + 1, by omega, by go_num, HF⟩, rfl⟩
    · have hlt1 : k3 + 1 < n := by
        by_cases h : k3 + 1 < n
        · exact h
        · rw [Pl.at_ge zs (k3 + 1) 43 (by rw [HN.out]; omega), Pl.at_ge zs (k3 + 1) 45 (by rw [HN.out]; omega)] at hB; cases hB
      have HF : Hid (numE zs i = if digE zs (k3 + 2) = k3 + 2 then (k3 + 2, false) else (digE zs (k3 + 2), true)) := by show _ = _; rw [HX.out, hB]; rfl
      clear hB
      go_wp2_with fail
      go_meet
      case rel => exact ⟨⟨k3 + 2, by omega, by go_num, HF⟩, rfl⟩
  case rest =>
  obtain ⟨⟨k4, hk4, rfl, HI4⟩, rfl⟩ := hcut
  clear HX HI3 hk3
  have h2 := Pl.digE_ge zs k4
  have h3 := Pl.digE_le zs k4 (by rw [HN.out]; omega)
  rw [HN.out] at h3
  by_cases hE : digE zs k4 = k4
  · have HF : Hid (numE zs i = (k4, false)) := by show _ = _; rw [HI4.out, if_pos hE]
    have HE : Hid (digE zs k4 = k4) := hE
    clear hE
    go_wp2_with (go_at_call 39; refine (digitsEnd_at _ _ _ _ zs _ k4 _ HN hmm hk4 rfl HC).mono ?_; rw [HE.out]; rintro e w' ⟨rfl, rfl⟩)
    go_ret2
    exact ⟨ret_pair (by rw [HF.out]) (by rw [HF.out]), rfl⟩
  · have HF : Hid (numE zs i = (digE zs k4, true)) := by show _ = _; rw [HI4.out, if_neg hE]
    go_wp2_with (go_at_call 39; refine (digitsEnd_at _ _ _ _ zs _ k4 _ HN hmm hk4 rfl HC).mono ?_; rintro e w' ⟨rfl, rfl⟩)
    go_ret2
    exact ⟨ret_pair (by rw [HF.out]) (by rw [HF.out]), rfl⟩

theorem numberEnd_empty (a : Option Addr) (cap : Nat) (w : World) :
    Calls Trym.prog 35 #[.slice a 0 cap, .int .i64 0] w fun e w' => e = .returned (.tuple #[.int .i64 0, .bool false]) ∧ w' = w := by
  go_enter Trym.func35, Trym.ntmps35
  go_wp2
  go_ret2
  exact ⟨rfl, rfl⟩

end Go.Proofs.Qxb6001341aMods
