/-
  THE READERS: digitsEnd, skipSpace over a slice of bytes in memory. Each by its contract.
-/
import Derived.Test.Qxb6001341aModsLeaf
namespace Go.Proofs.Qxb6001341aMods
open Go.RowKit
open Pl (digB hexB spB digE spE)

theorem digitsEnd_empty (a : Option Addr) (cap : Nat) (w : World) :
    Calls Trym.prog 39 #[.slice a 0 cap, .int .i64 0] w fun e w' => e = .returned (.int .i64 0) ∧ w' = w := by
  go_enter Trym.func39, Trym.ntmps39
  go_wp2
  go_loop [1] (fun i => i = .int .i64 0) (fun _ => 0)
  case atStart => rfl
  case round =>
    subst hrel
    go_wp2
    go_ret
    exact ⟨rfl, rfl⟩

/-- One byte of a row, under a letter. -/
theorem byteAt {w : World} {b off n k : Nat} {zs : List Int} (HC : Hid (∀ j, j < n → w.cell? ⟨b, off + j, none⟩ = some (.int .u8 (zs.getD j 0)))) (h : k < n) :
    ∃ c, Hid (zs.getD k 0 = c) ∧ w.cell? ⟨b, off + k, none⟩ = some (.int .u8 c) := ⟨_, rfl, HC k h⟩

theorem digitsEnd_row (b off n cap : Nat) (zs : List Int) (i : Nat) (w : World) (HN : Hid (zs.length = n)) (hm : n ≤ maxLen) (hi : i ≤ n)
    (HC : Hid (∀ j, j < n → w.cell? ⟨b, off + j, none⟩ = some (.int .u8 (zs.getD j 0)))) :
    Calls Trym.prog 39 #[.slice (some ⟨b, off, none⟩) n cap, .int .i64 i] w fun e w' => e = .returned (.int .i64 (digE zs i)) ∧ w' = w := by
  unfold maxLen at hm
  go_enter Trym.func39, Trym.ntmps39
  go_wp2
  go_loop [1] (fun s => ∃ k : Nat, k ≤ n ∧ s = .int .i64 k ∧ Hid (digE zs i = digE zs k)) (fun s => n - (intOf s).toNat)
  case atStart => exact ⟨i, hi, rfl, rfl⟩
  case round =>
    obtain ⟨k, hk, rfl, HE⟩ := hrel
    by_cases hlt : k < n
    · obtain ⟨c, HK, hck⟩ := byteAt HC hlt
      cases hd : digB c
      · have HF : Hid (digE zs k = k) := Pl.digE_stop zs k (by rw [HN.out]; omega) (by rw [HK.out]; exact hd)
        go_wp2_with (go_at_call 38; refine (isDigit_calls _ _).mono ?_; rintro e w' ⟨rfl, rfl⟩)
        go_ret
        exact ⟨ret_int (by rw [HE.out, HF.out]), rfl⟩
      · have HF : Hid (digE zs k = digE zs (k + 1)) := Pl.digE_step zs k (by rw [HN.out]; omega) (by rw [HK.out]; exact hd)
        go_wp2_with (go_at_call 38; refine (isDigit_calls _ _).mono ?_; rintro e w' ⟨rfl, rfl⟩)
        go_round
        case rel => exact ⟨k + 1, by omega, by go_num, HE.out.trans HF.out⟩
        case measure => simp [intOf]; omega
    · have HF : Hid (digE zs k = k) := Pl.digE_end zs k (by rw [HN.out]; omega)
      go_wp2
      go_ret
      exact ⟨ret_int (by rw [HE.out, HF.out]), rfl⟩

theorem skipSpace_empty (a : Option Addr) (cap : Nat) (w : World) :
    Calls Trym.prog 40 #[.slice a 0 cap, .int .i64 0] w fun e w' => e = .returned (.int .i64 0) ∧ w' = w := by
  go_enter Trym.func40, Trym.ntmps40
  go_wp2
  go_loop [1] (fun i => i = .int .i64 0) (fun _ => 0)
  case atStart => rfl
  case round =>
    subst hrel
    go_wp2
    go_ret
    exact ⟨rfl, rfl⟩

theorem skipSpace_row (b off n cap : Nat) (zs : List Int) (i : Nat) (w : World) (HN : Hid (zs.length = n)) (hm : n ≤ maxLen) (hi : i ≤ n)
    (HC : Hid (∀ j, j < n → w.cell? ⟨b, off + j, none⟩ = some (.int .u8 (zs.getD j 0)))) :
    Calls Trym.prog 40 #[.slice (some ⟨b, off, none⟩) n cap, .int .i64 i] w fun e w' => e = .returned (.int .i64 (spE zs i)) ∧ w' = w := by
  unfold maxLen at hm
  go_enter Trym.func40, Trym.ntmps40
  go_wp2
  go_loop [1] (fun s => ∃ k : Nat, k ≤ n ∧ s = .int .i64 k ∧ Hid (spE zs i = spE zs k)) (fun s => n - (intOf s).toNat)
  case atStart => exact ⟨i, hi, rfl, rfl⟩
  case round =>
    obtain ⟨k, hk, rfl, HE⟩ := hrel
    by_cases hlt : k < n
    · obtain ⟨c, HK, hck⟩ := byteAt HC hlt
      by_cases h0 : spB c = true
      · have HF : Hid (spE zs k = spE zs (k + 1)) := Pl.spE_step zs k (by rw [HN.out]; omega) (by rw [HK.out]; exact h0)
        have h4 : c = 32 ∨ c = 9 ∨ c = 10 ∨ c = 13 := by simpa [spB] using h0
        clear h0
        rcases h4 with rfl | rfl | rfl | rfl
        all_goals
          go_wp2
          go_round
          case rel => exact ⟨k + 1, by omega, by go_num, HE.out.trans HF.out⟩
          case measure => simp [intOf]; omega
      · have HF : Hid (spE zs k = k) := Pl.spE_stop zs k (by rw [HN.out]; omega) (by rw [HK.out]; simpa using h0)
        have h4 : ¬ (c = 32 ∨ c = 9 ∨ c = 10 ∨ c = 13) := by simpa [spB] using h0
        have e1 : (c == 32) = false := beq_eq_false_iff_ne.2 (fun h => h4 (by omega))
        have e2 : (c == 9) = false := beq_eq_false_iff_ne.2 (fun h => h4 (by omega))
        have e3 : (c == 10) = false := beq_eq_false_iff_ne.2 (fun h => h4 (by omega))
        have e4 : (c == 13) = false := beq_eq_false_iff_ne.2 (fun h => h4 (by omega))
        clear h0 h4
        go_wp2
        go_ret
        exact ⟨ret_int (by rw [HE.out, HF.out]), rfl⟩
    · have HF : Hid (spE zs k = k) := Pl.spE_end zs k (by rw [HN.out]; omega)
      go_wp2
      go_ret
      exact ⟨ret_int (by rw [HE.out, HF.out]), rfl⟩

/-- The two readers again, their index a plain integer: so they fit whatever the caller has reckoned. -/
theorem digitsEnd_at (b off n cap : Nat) (zs : List Int) (x : Int) (i : Nat) (w : World) (HN : Hid (zs.length = n)) (hm : n ≤ maxLen) (hi : i ≤ n) (hx : x = (i : Int))
    (HC : Hid (∀ j, j < n → w.cell? ⟨b, off + j, none⟩ = some (.int .u8 (zs.getD j 0)))) :
    Calls Trym.prog 39 #[.slice (some ⟨b, off, none⟩) n cap, .int .i64 x] w fun e w' => e = .returned (.int .i64 (digE zs i)) ∧ w' = w := by
  subst hx; exact digitsEnd_row b off n cap zs i w HN hm hi HC
theorem skipSpace_at (b off n cap : Nat) (zs : List Int) (x : Int) (i : Nat) (w : World) (HN : Hid (zs.length = n)) (hm : n ≤ maxLen) (hi : i ≤ n) (hx : x = (i : Int))
    (HC : Hid (∀ j, j < n → w.cell? ⟨b, off + j, none⟩ = some (.int .u8 (zs.getD j 0)))) :
    Calls Trym.prog 40 #[.slice (some ⟨b, off, none⟩) n cap, .int .i64 x] w fun e w' => e = .returned (.int .i64 (spE zs i)) ∧ w' = w := by
  subst hx; exact skipSpace_row b off n cap zs i w HN hm hi HC

end Go.Proofs.Qxb6001341aMods
