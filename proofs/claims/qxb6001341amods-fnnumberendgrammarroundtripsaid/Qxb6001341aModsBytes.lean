/-
  The bounds on total length, laid by program: zzBytes_..: each says yes where the lengths sum to at most 1048576, and no elsewhere.
-/
import Derived.Test.Qxb6001341aModsLeaf
namespace Go.Proofs.Qxb6001341aMods
open Go.RowKit

theorem bytes23_yes (a : Option Addr) (n c : Nat) (x : Int) (w : World) (h : n ≤ 1048576) :
    Calls Trym.prog 23 #[.slice a n c, .int .i64 x] w fun e w' => e = .returned (.bool true) ∧ w' = w := by
  go_enter Trym.func23, Trym.ntmps23
  go_wp2
  go_ret
  exact ⟨rfl, rfl⟩
theorem bytes23_no (a : Option Addr) (n c : Nat) (x : Int) (w : World) (h : 1048576 < n) :
    Calls Trym.prog 23 #[.slice a n c, .int .i64 x] w fun e w' => e = .returned (.bool false) ∧ w' = w := by
  go_enter Trym.func23, Trym.ntmps23
  go_wp2
  go_ret
  exact ⟨rfl, rfl⟩

theorem bytes29_yes (a1 a2 : Option Addr) (n1 c1 n2 c2 : Nat) (x : Int) (w : World) (h : n1 + n2 ≤ 1048576) :
    Calls Trym.prog 29 #[.slice a1 n1 c1, .slice a2 n2 c2, .int .i64 x] w fun e w' => e = .returned (.bool true) ∧ w' = w := by
  go_enter Trym.func29, Trym.ntmps29
  go_wp2
  go_ret
  exact ⟨rfl, rfl⟩
theorem bytes29_no (a1 a2 : Option Addr) (n1 c1 n2 c2 : Nat) (x : Int) (w : World) (h : 1048576 < n1 + n2) :
    Calls Trym.prog 29 #[.slice a1 n1 c1, .slice a2 n2 c2, .int .i64 x] w fun e w' => e = .returned (.bool false) ∧ w' = w := by
  by_cases h1 : 1048576 < n1
  · go_enter Trym.func29, Trym.ntmps29
    go_wp2
    go_ret
    exact ⟨rfl, rfl⟩
  by_cases h2 : 1048576 < n2
  · go_enter Trym.func29, Trym.ntmps29
    go_wp2
    go_ret
    exact ⟨rfl, rfl⟩
  go_enter Trym.func29, Trym.ntmps29
  go_wp2
  go_ret
  exact ⟨rfl, rfl⟩

theorem bytes12_yes (a1 a2 : Option Addr) (n1 c1 n2 c2 : Nat) (x : Int) (w : World) (h : n1 + n2 ≤ 1048576) :
    Calls Trym.prog 12 #[.slice a1 n1 c1, .int .u8 x, .slice a2 n2 c2] w fun e w' => e = .returned (.bool true) ∧ w' = w := by
  go_enter Trym.func12, Trym.ntmps12
  go_wp2
  go_ret
  exact ⟨rfl, rfl⟩
theorem bytes12_no (a1 a2 : Option Addr) (n1 c1 n2 c2 : Nat) (x : Int) (w : World) (h : 1048576 < n1 + n2) :
    Calls Trym.prog 12 #[.slice a1 n1 c1, .int .u8 x, .slice a2 n2 c2] w fun e w' => e = .returned (.bool false) ∧ w' = w := by
  by_cases h1 : 1048576 < n1
  · go_enter Trym.func12, Trym.ntmps12
    go_wp2
    go_ret
    exact ⟨rfl, rfl⟩
  by_cases h2 : 1048576 < n2
  · go_enter Trym.func12, Trym.ntmps12
    go_wp2
    go_ret
    exact ⟨rfl, rfl⟩
  go_enter Trym.func12, Trym.ntmps12
  go_wp2
  go_ret
  exact ⟨rfl, rfl⟩

theorem bytes18_yes (a1 a2 : Option Addr) (n1 c1 n2 c2 : Nat) (x y : Int) (w : World) (h : n1 + n2 ≤ 1048576) :
    Calls Trym.prog 18 #[.slice a1 n1 c1, .slice a2 n2 c2, .int .u8 x, .int .u8 y] w fun e w' => e = .returned (.bool true) ∧ w' = w := by
  go_enter Trym.func18, Trym.ntmps18
  go_wp2
  go_ret
  exact ⟨rfl, rfl⟩
theorem bytes18_no (a1 a2 : Option Addr) (n1 c1 n2 c2 : Nat) (x y : Int) (w : World) (h : 1048576 < n1 + n2) :
    Calls Trym.prog 18 #[.slice a1 n1 c1, .slice a2 n2 c2, .int .u8 x, .int .u8 y] w fun e w' => e = .returned (.bool false) ∧ w' = w := by
  by_cases h1 : 1048576 < n1
  · go_enter Trym.func18, Trym.ntmps18
    go_wp2
    go_ret
    exact ⟨rfl, rfl⟩
  by_cases h2 : 1048576 < n2
  · go_enter Trym.func18, Trym.ntmps18
    go_wp2
    go_ret
    exact ⟨rfl, rfl⟩
  go_enter Trym.func18, Trym.ntmps18
  go_wp2
  go_ret
  exact ⟨rfl, rfl⟩

theorem bytes19_yes (b1 b2 b3 b4 : Bool) (x1 x2 x3 x4 x5 x6 : Int) (a : Option Addr) (n c : Nat) (w : World) (h : n ≤ 1048576) :
    Calls Trym.prog 19 #[.bool b1, .int .u64 x1, .bool b2, .int .u8 x2, .int .u64 x3, .bool b3, .bool b4, .int .u8 x4, .int .u8 x5, .int .u64 x6, .slice a n c] w fun e w' => e = .returned (.bool true) ∧ w' = w := by
  go_enter Trym.func19, Trym.ntmps19
  go_wp2
  go_ret
  exact ⟨rfl, rfl⟩
theorem bytes19_no (b1 b2 b3 b4 : Bool) (x1 x2 x3 x4 x5 x6 : Int) (a : Option Addr) (n c : Nat) (w : World) (h : 1048576 < n) :
    Calls Trym.prog 19 #[.bool b1, .int .u64 x1, .bool b2, .int .u8 x2, .int .u64 x3, .bool b3, .bool b4, .int .u8 x4, .int .u8 x5, .int .u64 x6, .slice a n c] w fun e w' => e = .returned (.bool false) ∧ w' = w := by
  go_enter Trym.func19, Trym.ntmps19
  go_wp2
  go_ret
  exact ⟨rfl, rfl⟩

end Go.Proofs.Qxb6001341aMods
