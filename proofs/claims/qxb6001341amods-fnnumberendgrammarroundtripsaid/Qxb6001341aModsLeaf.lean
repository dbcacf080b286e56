/-
  THE LEAVES: functions of one byte. Each by its contract: the answer is the plain function's, the world stands.
-/
import Derived.Test.Qxb6001341aModsRows
import Derived.Test.Qxb6001341aModsPlain
import Derived.WalkKit
namespace Go.Proofs.Qxb6001341aMods
open Go.RowKit
open Pl (digB hexB spB)

theorem digB_yes {c : Int} (h1 : 48 ≤ c) (h2 : c ≤ 57) : Hid (digB c = true) := by unfold Hid; simp [digB]; omega
theorem digB_no {c : Int} (h : c < 48 ∨ 57 < c) : Hid (digB c = false) := by unfold Hid; simp [digB]; omega
theorem ret_bool {a b : Bool} (h : b = a) : Ending.returned (.bool a) = .returned (.bool b) := by rw [h]

theorem ret_int {k : IntKind} {a b : Int} (h : a = b) : Ending.returned (.int k a) = .returned (.int k b) := by rw [h]

theorem isDigit_calls (c : Int) (w : World) : Calls Trym.prog 38 #[.int .u8 c] w fun e w' => e = .returned (.bool (digB c)) ∧ w' = w := by
  by_cases h1 : 48 ≤ c
  · by_cases h2 : c ≤ 57
    · have hr := digB_yes h1 h2
      go_enter Trym.func38, Trym.ntmps38
      go_wp2
      go_ret
      exact ⟨ret_bool hr.out, rfl⟩
    · have hr := digB_no (c := c) (by omega)
      go_enter Trym.func38, Trym.ntmps38
      go_wp2
      go_ret
      exact ⟨ret_bool hr.out, rfl⟩
  · have hr := digB_no (c := c) (by omega)
    go_enter Trym.func38, Trym.ntmps38
    go_wp2
    go_ret
    exact ⟨ret_bool hr.out, rfl⟩

theorem zzIsDigit_calls (c : Int) (w : World) : Calls Trym.prog 20 #[.int .u8 c] w fun e w' => e = .returned (.bool (digB c)) ∧ w' = w := by
  by_cases h1 : 48 ≤ c
  · by_cases h2 : c ≤ 57
    · have hr := digB_yes h1 h2
      go_enter Trym.func20, Trym.ntmps20
      go_wp2
      go_ret
      exact ⟨ret_bool hr.out, rfl⟩
    · have hr := digB_no (c := c) (by omega)
      go_enter Trym.func20, Trym.ntmps20
      go_wp2
      go_ret
      exact ⟨ret_bool hr.out, rfl⟩
  · have hr := digB_no (c := c) (by omega)
    go_enter Trym.func20, Trym.ntmps20
    go_wp2
    go_ret
    exact ⟨ret_bool hr.out, rfl⟩

theorem zzIsSpace_calls (c : Int) (w : World) : Calls Trym.prog 28 #[.int .u8 c] w fun e w' => e = .returned (.bool (spB c)) ∧ w' = w := by
  unfold spB
  by_cases h1 : c = 32
  · subst h1
    go_enter Trym.func28, Trym.ntmps28
    go_wp2
    go_ret
    exact ⟨rfl, rfl⟩
  by_cases h2 : c = 9
  · subst h2
    go_enter Trym.func28, Trym.ntmps28
    go_wp2
    go_ret
    exact ⟨rfl, rfl⟩
  by_cases h3 : c = 10
  · subst h3
    go_enter Trym.func28, Trym.ntmps28
    go_wp2
    go_ret
    exact ⟨rfl, rfl⟩
  have e1 : (c == 32) = false := beq_eq_false_iff_ne.2 h1
  have e2 : (c == 9) = false := beq_eq_false_iff_ne.2 h2
  have e3 : (c == 10) = false := beq_eq_false_iff_ne.2 h3
  clear h1 h2 h3
  go_enter Trym.func28, Trym.ntmps28
  go_wp2
  go_ret
  exact ⟨by simp [e1, e2, e3], rfl⟩

theorem hexB_a {c : Int} (h1 : 48 ≤ c) (h2 : c ≤ 57) : Hid (hexB c = true) := by unfold Hid; simp [hexB]; omega
theorem hexB_b {c : Int} (h1 : 97 ≤ c) (h2 : c ≤ 102) : Hid (hexB c = true) := by unfold Hid; simp [hexB]; omega
theorem hexB_c {c : Int} (h1 : 65 ≤ c) (h2 : c ≤ 70) : Hid (hexB c = true) := by unfold Hid; simp [hexB]; omega
theorem hexB_n {c : Int} (h1 : c < 48 ∨ 57 < c) (h2 : c < 97 ∨ 102 < c) (h3 : c < 65 ∨ 70 < c) : Hid (hexB c = false) := by unfold Hid; simp [hexB]; omega

theorem isHex_calls (c : Int) (w : World) : Calls Trym.prog 37 #[.int .u8 c] w fun e w' => e = .returned (.bool (hexB c)) ∧ w' = w := by
  by_cases a0 : c < 48
  · have hr := hexB_n (c := c) (by omega) (by omega) (by omega)
    go_enter Trym.func37, Trym.ntmps37
    go_wp2
    go_ret
    exact ⟨ret_bool hr.out, rfl⟩
  by_cases a1 : c ≤ 57
  · have hr := hexB_a (c := c) (by omega) (by omega)
    go_enter Trym.func37, Trym.ntmps37
    go_wp2
    go_ret
    exact ⟨ret_bool hr.out, rfl⟩
  by_cases a2 : c < 65
  · have hr := hexB_n (c := c) (by omega) (by omega) (by omega)
    go_enter Trym.func37, Trym.ntmps37
    go_wp2
    go_ret
    exact ⟨ret_bool hr.out, rfl⟩
  by_cases a3 : c ≤ 70
  · have hr := hexB_c (c := c) (by omega) (by omega)
    go_enter Trym.func37, Trym.ntmps37
    go_wp2
    go_ret
    exact ⟨ret_bool hr.out, rfl⟩
  by_cases a4 : c < 97
  · have hr := hexB_n (c := c) (by omega) (by omega) (by omega)
    go_enter Trym.func37, Trym.ntmps37
    go_wp2
    go_ret
    exact ⟨ret_bool hr.out, rfl⟩
  by_cases a5 : c ≤ 102
  · have hr := hexB_b (c := c) (by omega) (by omega)
    go_enter Trym.func37, Trym.ntmps37
    go_wp2
    go_ret
    exact ⟨ret_bool hr.out, rfl⟩
  have hr := hexB_n (c := c) (by omega) (by omega) (by omega)
  go_enter Trym.func37, Trym.ntmps37
  go_wp2
  go_ret
  exact ⟨ret_bool hr.out, rfl⟩

/-- 'zzShortEscape'. -/
theorem zzShort_calls (c : Int) (w : World) : Calls Trym.prog 32 #[.int .u8 c] w fun e w' => e = .returned (.int .u8 (Pl.shortE c)) ∧ w' = w := by
  by_cases h1 : c = 8
  · subst h1
    go_enter Trym.func32, Trym.ntmps32
    go_wp2
    go_ret
    exact ⟨rfl, rfl⟩
  by_cases h2 : c = 12
  · subst h2
    go_enter Trym.func32, Trym.ntmps32
    go_wp2
    go_ret
    exact ⟨rfl, rfl⟩
  by_cases h3 : c = 10
  · subst h3
    go_enter Trym.func32, Trym.ntmps32
    go_wp2
    go_ret
    exact ⟨rfl, rfl⟩
  by_cases h4 : c = 13
  · subst h4
    go_enter Trym.func32, Trym.ntmps32
    go_wp2
    go_ret
    exact ⟨rfl, rfl⟩
  by_cases h5 : c = 9
  · subst h5
    go_enter Trym.func32, Trym.ntmps32
    go_wp2
    go_ret
    exact ⟨rfl, rfl⟩
  have hr : Pl.shortE c = 0 := by simp [Pl.shortE, h1, h2, h3, h4, h5]
  have e1 : (c == 8) = false := beq_eq_false_iff_ne.2 h1
  have e2 : (c == 12) = false := beq_eq_false_iff_ne.2 h2
  have e3 : (c == 10) = false := beq_eq_false_iff_ne.2 h3
  have e4 : (c == 13) = false := beq_eq_false_iff_ne.2 h4
  have e5 : (c == 9) = false := beq_eq_false_iff_ne.2 h5
  have HR : Hid (Pl.shortE c = 0) := hr
  clear h1 h2 h3 h4 h5 hr
  go_enter Trym.func32, Trym.ntmps32
  go_wp2
  go_ret
  exact ⟨ret_int HR.out.symm, rfl⟩

/-- 'zzHex', of a half byte. -/
theorem zzHex_calls (d : Int) (up : Bool) (w : World) (h0 : 0 ≤ d) (h1 : d ≤ 15) : Calls Trym.prog 33 #[.int .u8 d, .bool up] w fun e w' => e = .returned (.int .u8 (Pl.hexD up d)) ∧ w' = w := by
  by_cases h2 : d < 10
  · have hr : Pl.hexD up d = 48 + d := by simp [Pl.hexD, h2]
    have HR : Hid (Pl.hexD up d = 48 + d) := hr
    clear hr
    go_enter Trym.func33, Trym.ntmps33
    go_wp2
    go_ret
    exact ⟨ret_int HR.out.symm, rfl⟩
  · cases up
    · have hr : Pl.hexD false d = 97 + d - 10 := by simp [Pl.hexD, h2]
      have HR : Hid (Pl.hexD false d = 97 + d - 10) := hr
      clear hr
      go_enter Trym.func33, Trym.ntmps33
      go_wp2
      go_ret
      exact ⟨ret_int HR.out.symm, rfl⟩
    · have hr : Pl.hexD true d = 65 + d - 10 := by simp [Pl.hexD, h2]
      have HR : Hid (Pl.hexD true d = 65 + d - 10) := hr
      clear hr
      go_enter Trym.func33, Trym.ntmps33
      go_wp2
      go_ret
      exact ⟨ret_int HR.out.symm, rfl⟩

end Go.Proofs.Qxb6001341aMods
