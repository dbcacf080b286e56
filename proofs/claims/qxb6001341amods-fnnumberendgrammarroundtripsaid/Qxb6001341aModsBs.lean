/-
  'Bs w a n cap zs': THE SLICE (a, n, cap) HOLDS THE BYTES zs in the world w; nil and empty ones too. The three exported readers over it.
-/
import Derived.Test.Qxb6001341aModsMem
namespace Go.Proofs.Qxb6001341aMods
open Go.RowKit
open Pl (digB hexB spB digE spE numE strE memE at?)

def Bs (w : World) (a : Option Addr) (n cap : Nat) (zs : List Int) : Prop :=
  zs.length = n ∧ n ≤ cap ∧ cap ≤ maxLen ∧ (∀ z ∈ zs, 0 ≤ z ∧ z ≤ 255) ∧ (a = none → n = 0 ∧ cap = 0) ∧
    (0 < n → ∃ b off, a = some ⟨b, off, none⟩ ∧ ∀ j, j < n → w.cell? ⟨b, off + j, none⟩ = some (.int .u8 (zs.getD j 0)))

theorem Bs.len {w : World} {a : Option Addr} {n cap : Nat} {zs : List Int} (h : Bs w a n cap zs) : zs.length = n := h.1
theorem Bs.room {w : World} {a : Option Addr} {n cap : Nat} {zs : List Int} (h : Bs w a n cap zs) : n ≤ cap := h.2.1
theorem Bs.max {w : World} {a : Option Addr} {n cap : Nat} {zs : List Int} (h : Bs w a n cap zs) : n ≤ maxLen := Nat.le_trans h.2.1 h.2.2.1
theorem Bs.byte {w : World} {a : Option Addr} {n cap : Nat} {zs : List Int} (h : Bs w a n cap zs) : ∀ z ∈ zs, 0 ≤ z ∧ z ≤ 255 := h.2.2.2.1

/-- What is held stays held where nothing old turns. -/
theorem Bs.later {w w' : World} {a : Option Addr} {n cap : Nat} {zs : List Int} (h : Bs w a n cap zs) (hb : Below w.heap.size w w') : Bs w' a n cap zs := by
  obtain ⟨h1, h2, h3, h4, h5, h6⟩ := h
  refine ⟨h1, h2, h3, h4, h5, fun hn => ?_⟩
  obtain ⟨b, off, ha, hc⟩ := h6 hn
  refine ⟨b, off, ha, fun j hj => ?_⟩
  rw [hb.cell (p := ⟨b, off + j, none⟩) (World.block_lt_of_cell? (h := hc j hj))]
  exact hc j hj

theorem Below.later {w w1 w2 : World} (h1 : Below w.heap.size w w1) (h2 : Below w1.heap.size w1 w2) : Below w.heap.size w w2 := h1.trans (h2.mono h1.size)

/-- A cell of it. -/
theorem Bs.at {w : World} {a : Option Addr} {n cap : Nat} {zs : List Int} (h : Bs w a n cap zs) (hn : 0 < n) :
    ∃ b off, a = some ⟨b, off, none⟩ ∧ Hid (∀ j, j < n → w.cell? ⟨b, off + j, none⟩ = some (.int .u8 (zs.getD j 0))) := h.2.2.2.2.2 hn

/-- Out of a row that the call itself made. -/
theorem bs_of_owns {w : World} {base g n cap : Nat} {zs : List Int} (h : w.ownsRow base 5 1 (.slice (some ⟨g, 0, none⟩) n cap) n (zs.map (Value.int .u8))) (hz : ∀ z ∈ zs, 0 ≤ z ∧ z ≤ 255) :
    Bs w (some ⟨g, 0, none⟩) n cap zs := by
  have hl : zs.length = n := by simpa using h.1
  have hcap : n ≤ cap ∧ cap ≤ maxLen := by
    rcases h.2 with ⟨h', _⟩ | ⟨g', cap', cur, h', _, _, h1, h2, _⟩
    · simp at h'
    · simp only [Value.slice.injEq, Option.some.injEq, Addr.mk.injEq, and_true, true_and] at h'
      obtain ⟨rfl, rfl⟩ := h'
      exact ⟨h1, h2⟩
  refine ⟨hl, hcap.1, hcap.2, hz, (fun h => by cases h), fun _ => ⟨g, 0, rfl, fun j hj => ?_⟩⟩
  rw [Nat.zero_add, h.cellAt j (by omega)]
  simp [List.getD, show j < zs.length by omega]
theorem bs_of_owns_any {w : World} {base n : Nat} {v : Value} {zs : List Int} (h : w.ownsRow base 5 1 v n (zs.map (Value.int .u8))) (hz : ∀ z ∈ zs, 0 ≤ z ∧ z ≤ 255) :
    ∃ a cap, v = .slice a n cap ∧ Bs w a n cap zs := by
  have hl : zs.length = n := by simpa using h.1
  rcases h.2 with ⟨rfl, rfl⟩ | ⟨g, cap, cur, rfl, _⟩
  · exact ⟨none, 0, rfl, hl, Nat.le_refl _, Nat.zero_le _, hz, fun _ => ⟨rfl, rfl⟩, fun h => by omega⟩
  · exact ⟨_, cap, rfl, bs_of_owns h hz⟩

/-! ### The three exported readers -/
theorem ret_pair_of {x : Nat × Bool} {r : Nat} {ok : Bool} (h : x = (r, ok)) : Ending.returned (.tuple #[.int .i64 (x.1 : Int), .bool x.2]) = .returned (.tuple #[.int .i64 (r : Int), .bool ok]) := by rw [h]

theorem numberEnd_bs {w : World} {a : Option Addr} {n cap : Nat} {zs : List Int} (h : Bs w a n cap zs) (x : Int) (i r : Nat) (ok : Bool) (hi : i ≤ n) (hx : x = (i : Int)) (HR : Hid (numE zs i = (r, ok))) :
    Calls Trym.prog 35 #[.slice a n cap, .int .i64 x] w fun e w' => e = .returned (.tuple #[.int .i64 r, .bool ok]) ∧ w' = w := by
  subst hx
  by_cases hn : 0 < n
  · obtain ⟨b, off, rfl, HC⟩ := h.at hn
    refine (numberEnd_row b off n cap zs i w h.len h.max hi HC).mono fun e w' ⟨he, hw⟩ => ⟨?_, hw⟩
    rw [he]; exact ret_pair_of HR.out
  · obtain rfl : n = 0 := by omega
    obtain rfl : i = 0 := by omega
    have hz : zs = [] := List.eq_nil_of_length_eq_zero h.len
    subst hz
    have hr : numE [] 0 = (0, false) := rfl
    rw [HR.out] at hr
    obtain ⟨rfl, rfl⟩ := Prod.mk.inj hr
    exact numberEnd_empty a cap w
theorem stringEnd_bs {w : World} {a : Option Addr} {n cap : Nat} {zs : List Int} (h : Bs w a n cap zs) (x : Int) (i r : Nat) (ok : Bool) (hi : i ≤ n) (hx : x = (i : Int)) (HR : Hid (strE zs i = (r, ok))) :
    Calls Trym.prog 34 #[.slice a n cap, .int .i64 x] w fun e w' => e = .returned (.tuple #[.int .i64 r, .bool ok]) ∧ w' = w := by
  subst hx
  by_cases hn : 0 < n
  · obtain ⟨b, off, rfl, HC⟩ := h.at hn
    refine (stringEnd_row b off n cap zs i w h.len h.max hi HC).mono fun e w' ⟨he, hw⟩ => ⟨?_, hw⟩
    rw [he]; exact ret_pair_of HR.out
  · obtain rfl : n = 0 := by omega
    obtain rfl : i = 0 := by omega
    have hz : zs = [] := List.eq_nil_of_length_eq_zero h.len
    subst hz
    have hr : strE [] 0 = (0, false) := rfl
    rw [HR.out] at hr
    obtain ⟨rfl, rfl⟩ := Prod.mk.inj hr
    exact stringEnd_empty a cap w
theorem memberName_bs {w : World} {a : Option Addr} {n cap : Nat} {zs : List Int} (h : Bs w a n cap zs) (x : Int) (i r : Nat) (ok : Bool) (hi : i ≤ n) (hx : x = (i : Int)) (HR : Hid (memE zs i = (r, ok))) :
    Calls Trym.prog 36 #[.slice a n cap, .int .i64 x] w fun e w' => e = .returned (.tuple #[.int .i64 r, .bool ok]) ∧ w' = w := by
  subst hx
  by_cases hn : 0 < n
  · obtain ⟨b, off, rfl, HC⟩ := h.at hn
    refine (memberName_row b off n cap zs i w h.len h.max hi HC).mono fun e w' ⟨he, hw⟩ => ⟨?_, hw⟩
    rw [he]; exact ret_pair_of HR.out
  · obtain rfl : n = 0 := by omega
    obtain rfl : i = 0 := by omega
    have hz : zs = [] := List.eq_nil_of_length_eq_zero h.len
    subst hz
    have hr : memE [] 0 = (0, false) := rfl
    rw [HR.out] at hr
    obtain ⟨rfl, rfl⟩ := Prod.mk.inj hr
    exact memberName_empty a cap w

theorem ZZnumberEnd_calls {w : World} {a : Option Addr} {n cap : Nat} {zs : List Int} (h : Bs w a n cap zs) (x : Int) (i r : Nat) (ok : Bool) (hi : i ≤ n) (hx : x = (i : Int)) (HR : Hid (numE zs i = (r, ok))) :
    Calls Trym.prog 22 #[.slice a n cap, .int .i64 x] w fun e w' => e = .returned (.tuple #[.int .i64 r, .bool ok]) ∧ w' = w := by
  have HX : Hid (x = (i : Int)) := hx
  clear hx
  go_enter Trym.func22, Trym.ntmps22
  go_wp2_with (go_at_call 35; refine (numberEnd_bs h _ i r ok hi HX HR).mono ?_; rintro e w' ⟨rfl, rfl⟩)
  go_ret2
  exact ⟨rfl, rfl⟩
theorem ZZstringEnd_calls {w : World} {a : Option Addr} {n cap : Nat} {zs : List Int} (h : Bs w a n cap zs) (x : Int) (i r : Nat) (ok : Bool) (hi : i ≤ n) (hx : x = (i : Int)) (HR : Hid (strE zs i = (r, ok))) :
    Calls Trym.prog 17 #[.slice a n cap, .int .i64 x] w fun e w' => e = .returned (.tuple #[.int .i64 r, .bool ok]) ∧ w' = w := by
  have HX : Hid (x = (i : Int)) := hx
  clear hx
  go_enter Trym.func17, Trym.ntmps17
  go_wp2_with (go_at_call 34; refine (stringEnd_bs h _ i r ok hi HX HR).mono ?_; rintro e w' ⟨rfl, rfl⟩)
  go_ret2
  exact ⟨rfl, rfl⟩
theorem ZZmemberName_calls {w : World} {a : Option Addr} {n cap : Nat} {zs : List Int} (h : Bs w a n cap zs) (x : Int) (i r : Nat) (ok : Bool) (hi : i ≤ n) (hx : x = (i : Int)) (HR : Hid (memE zs i = (r, ok))) :
    Calls Trym.prog 26 #[.slice a n cap, .int .i64 x] w fun e w' => e = .returned (.tuple #[.int .i64 r, .bool ok]) ∧ w' = w := by
  have HX : Hid (x = (i : Int)) := hx
  clear hx
  go_enter Trym.func26, Trym.ntmps26
  go_wp2_with (go_at_call 36; refine (memberName_bs h _ i r ok hi HX HR).mono ?_; rintro e w' ⟨rfl, rfl⟩)
  go_ret2
  exact ⟨rfl, rfl⟩

end Go.Proofs.Qxb6001341aMods
