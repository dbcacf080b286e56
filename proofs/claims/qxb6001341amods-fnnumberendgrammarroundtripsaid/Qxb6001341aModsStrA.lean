/-
  stringEnd over a slice of bytes: its contract.
-/
import Derived.Test.Qxb6001341aModsRead
namespace Go.Proofs.Qxb6001341aMods
open Go.RowKit
open Pl (digB hexB spB escB strE)

theorem ret_pair_s {a b : Int} {p q : Bool} (h : a = b) (k : p = q) : Ending.returned (.tuple #[.int .i64 a, .bool p]) = .returned (.tuple #[.int .i64 b, .bool q]) := by rw [h, k]

theorem stringEnd_empty (a : Option Addr) (cap : Nat) (w : World) :
    Calls Trym.prog 34 #[.slice a 0 cap, .int .i64 0] w fun e w' => e = .returned (.tuple #[.int .i64 0, .bool false]) ∧ w' = w := by
  go_enter Trym.func34, Trym.ntmps34
  go_wp2
  go_loop [1] (fun i => i = .int .i64 0) (fun _ => 0)
  case atStart => rfl
  case round =>
    subst hrel
    go_wp2
    go_ret2
    exact ⟨rfl, rfl⟩

set_option maxHeartbeats 2000000 in
set_option maxRecDepth 20000 in
theorem stringEnd_row (b off n cap : Nat) (zs : List Int) (i : Nat) (w : World) (HN : Hid (zs.length = n)) (hm : n ≤ maxLen) (hi : i ≤ n)
    (HC : Hid (∀ j, j < n → w.cell? ⟨b, off + j, none⟩ = some (.int .u8 (zs.getD j 0)))) :
    Calls Trym.prog 34 #[.slice (some ⟨b, off, none⟩) n cap, .int .i64 i] w fun e w' => e = .returned (.tuple #[.int .i64 (strE zs i).1, .bool (strE zs i).2]) ∧ w' = w := by
  unfold maxLen at hm
  go_enter Trym.func34, Trym.ntmps34
  go_wp2
  go_loop [1] (fun s => ∃ k : Nat, k ≤ n ∧ s = .int .i64 k ∧ Hid (strE zs i = strE zs k)) (fun s => n - (intOf s).toNat)
  case atStart => exact ⟨i, hi, rfl, rfl⟩
  case round =>
    obtain ⟨k, hk, rfl, HE⟩ := hrel
    by_cases hlt : k < n
    · obtain ⟨c, HK, hck⟩ := byteAt HC hlt
      by_cases h34 : c = 34
      · subst h34
        have HF : Hid (strE zs i = (k + 1, true)) := HE.out.trans (Pl.strE_quote zs k (by rw [HN.out]; omega) HK.out)
        go_wp2
        go_ret2
        exact ⟨ret_pair_s (by rw [HF.out]; simp) (by rw [HF.out]), rfl⟩
      have e34 : (c == 34) = false := beq_eq_false_iff_ne.2 h34
      by_cases h32 : c < 32
      · have HF : Hid (strE zs i = (k, false)) := HE.out.trans (Pl.strE_ctrl zs k (by rw [HN.out]; omega) (by rw [HK.out]; exact h32))
        clear h34
        go_wp2
        go_ret2
        exact ⟨ret_pair_s (by rw [HF.out]) (by rw [HF.out]), rfl⟩
      by_cases h92 : c = 92
      · subst h92
        clear h34 h32 e34
        by_cases hlt1 : k + 1 < n
        · obtain ⟨d, HD, hcd⟩ := byteAt HC hlt1
          by_cases hesc : escB d = true
          · have HF : Hid (strE zs i = strE zs (k + 2)) := HE.out.trans (Pl.strE_back_esc zs k (by rw [HN.out]; omega) HK.out (by rw [HD.out]; exact hesc))
            have h8 : d = 34 ∨ d = 92 ∨ d = 47 ∨ d = 98 ∨ d = 102 ∨ d = 110 ∨ d = 114 ∨ d = 116 := by simpa [escB] using hesc
            clear hesc
            rcases h8 with rfl | rfl | rfl | rfl | rfl | rfl | rfl | rfl
            all_goals
              go_wp2
              go_round
              case rel => exact ⟨k + 2, by omega, by go_num, HF⟩
              case measure => simp [intOf]; omega
          · by_cases h117 : d = 117
            · subst h117
              clear hesc
              by_cases hl5 : k + 5 < n
              · have HX : Hid (strE zs i = if (hexB (zs.getD (k + 2) 0) && (hexB (zs.getD (k + 3) 0) && (hexB (zs.getD (k + 4) 0) && hexB (zs.getD (k + 5) 0)))) = true then strE zs (k + 6) else (k + 1, false)) :=
                  HE.out.trans (Pl.strE_u_long zs k (by rw [HN.out]; omega) HK.out HD.out)
                obtain ⟨x1, HX1, hc1⟩ := byteAt (k := k + 2) HC (by omega)
                obtain ⟨x2, HX2, hc2⟩ := byteAt (k := k + 3) HC (by omega)
                obtain ⟨x3, HX3, hc3⟩ := byteAt (k := k + 4) HC (by omega)
                obtain ⟨x4, HX4, hc4⟩ := byteAt (k := k + 5) HC (by omega)
                have HY : Hid (strE zs i = if (hexB x1 && (hexB x2 && (hexB x3 && hexB x4))) = true then strE zs (k + 6) else (k + 1, false)) := by
                  rw [← HX1.out, ← HX2.out, ← HX3.out, ← HX4.out]; exact HX
                clear HX
                cases g1 : hexB x1
                · have HF : Hid (strE zs i = (k + 1, false)) := by show _ = _; rw [HY.out, g1]; simp
                  go_wp2_with (go_at_call 37; refine (isHex_calls _ _).mono ?_; rintro e w' ⟨rfl, rfl⟩)
                  go_ret2
                  exact ⟨ret_pair_s (by rw [HF.out]; simp) (by rw [HF.out]), rfl⟩
                cases g2 : hexB x2
                · have HF : Hid (strE zs i = (k + 1, false)) := by show _ = _; rw [HY.out, g1, g2]; simp
                  go_wp2_with (go_at_call 37; refine (isHex_calls _ _).mono ?_; rintro e w' ⟨rfl, rfl⟩)
                  go_ret2
                  exact ⟨ret_pair_s (by rw [HF.out]; simp) (by rw [HF.out]), rfl⟩
                cases g3 : hexB x3
                · have HF : Hid (strE zs i = (k + 1, false)) := by show _ = _; rw [HY.out, g1, g2, g3]; simp
                  go_wp2_with (go_at_call 37; refine (isHex_calls _ _).mono ?_; rintro e w' ⟨rfl, rfl⟩)
                  go_ret2
                  exact ⟨ret_pair_s (by rw [HF.out]; simp) (by rw [HF.out]), rfl⟩
                cases g4 : hexB x4
                · have HF : Hid (strE zs i = (k + 1, false)) := by show _ = _; rw [HY.out, g1, g2, g3, g4]; simp
                  go_wp2_with (go_at_call 37; refine (isHex_calls _ _).mono ?_; rintro e w' ⟨rfl, rfl⟩)
                  go_ret2
                  exact ⟨ret_pair_s (by rw [HF.out]; simp) (by rw [HF.out]), rfl⟩
                have HF : Hid (strE zs i = strE zs (k + 6)) := by show _ = _; rw [HY.out, g1, g2, g3, g4]; simp
                go_wp2_with (go_at_call 37; refine (isHex_calls _ _).mono ?_; rintro e w' ⟨rfl, rfl⟩)
                go_round
                case rel => exact ⟨k + 6, by omega, by go_num, HF⟩
                case measure => simp [intOf]; omega
              · have HF : Hid (strE zs i = (k + 1, false)) := HE.out.trans (Pl.strE_u_short zs k (by rw [HN.out]; omega) HK.out HD.out (by rw [HN.out]; omega))
                go_wp2
                go_ret2
                exact ⟨ret_pair_s (by rw [HF.out]; simp) (by rw [HF.out]), rfl⟩
            · have HF : Hid (strE zs i = (k + 1, false)) := HE.out.trans (Pl.strE_back_bad zs k (by rw [HN.out]; omega) HK.out (by rw [HD.out]; simpa using hesc) (by rw [HD.out]; exact h117))
              have h8 : ¬ (d = 34 ∨ d = 92 ∨ d = 47 ∨ d = 98 ∨ d = 102 ∨ d = 110 ∨ d = 114 ∨ d = 116) := by simpa [escB] using hesc
              have e1 : (d == 34) = false := beq_eq_false_iff_ne.2 (fun h => h8 (by omega))
              have e2 : (d == 92) = false := beq_eq_false_iff_ne.2 (fun h => h8 (by omega))
              have e3 : (d == 47) = false := beq_eq_false_iff_ne.2 (fun h => h8 (by omega))
              have e4 : (d == 98) = false := beq_eq_false_iff_ne.2 (fun h => h8 (by omega))
              have e5 : (d == 102) = false := beq_eq_false_iff_ne.2 (fun h => h8 (by omega))
              have e6 : (d == 110) = false := beq_eq_false_iff_ne.2 (fun h => h8 (by omega))
              have e7 : (d == 114) = false := beq_eq_false_iff_ne.2 (fun h => h8 (by omega))
              have e8 : (d == 116) = false := beq_eq_false_iff_ne.2 (fun h => h8 (by omega))
              have e9 : (d == 117) = false := beq_eq_false_iff_ne.2 h117
              clear h8 hesc h117
              go_wp2
              go_ret2
              exact ⟨ret_pair_s (by rw [HF.out]; simp) (by rw [HF.out]), rfl⟩
        · have HF : Hid (strE zs i = (k + 1, false)) := HE.out.trans (Pl.strE_back_end zs k (by rw [HN.out]; omega) HK.out (by rw [HN.out]; omega))
          go_wp2
          go_ret2
          exact ⟨ret_pair_s (by rw [HF.out]; simp) (by rw [HF.out]), rfl⟩
      · have HF : Hid (strE zs i = strE zs (k + 1)) := HE.out.trans (Pl.strE_plain zs k (by rw [HN.out]; omega) (by rw [HK.out]; exact h34) (by rw [HK.out]; exact h32) (by rw [HK.out]; exact h92))
        have e92 : (c == 92) = false := beq_eq_false_iff_ne.2 h92
        clear h34 h92
        go_wp2
        go_round
        case rel => exact ⟨k + 1, by omega, by go_num, HF⟩
        case measure => simp [intOf]; omega
    · have HF : Hid (strE zs i = (k, false)) := HE.out.trans (Pl.strE_end zs k (by rw [HN.out]; omega))
      go_wp2
      go_ret2
      exact ⟨ret_pair_s (by rw [HF.out]) (by rw [HF.out]), rfl⟩

end Go.Proofs.Qxb6001341aMods
