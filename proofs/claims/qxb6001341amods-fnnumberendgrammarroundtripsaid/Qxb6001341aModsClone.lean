/-
  zzClone: a fresh copy; nil stays nil.
-/
import Derived.Test.Qxb6001341aModsBs
import Derived.Lib.SliceRun
namespace Go.Proofs.Qxb6001341aMods
open Go.RowKit

theorem info5 : (Trym.prog.info? 5).map (fun i => (i.zero, i.size, i.bytes)) = some (some (.int .u8 0), 1, 1) := by kernel_rfl

/-- So much is copied: the first k bytes; zeros behind them. -/
def part (zs : List Int) (k n : Nat) : List Int := zs.take k ++ List.replicate (n - k) 0
theorem part_len (zs : List Int) (k n : Nat) (h : zs.length = n) (hk : k ≤ n) : (part zs k n).length = n := by simp [part]; omega
theorem part_zero (zs : List Int) (n : Nat) : part zs 0 n = List.replicate n 0 := by simp [part]
theorem part_all (zs : List Int) (n : Nat) (h : zs.length = n) : part zs n n = zs := by simp [part, List.take_of_length_le (Nat.le_of_eq h)]
theorem part_set (zs : List Int) (k n : Nat) (h : zs.length = n) (hk : k < n) : (part zs k n).set k (zs.getD k 0) = part zs (k + 1) n := by
  unfold part
  have hl : (zs.take k).length = k := by simp; omega
  have e : n - k = (n - (k + 1)) + 1 := by omega
  rw [List.set_append_right _ _ (by omega), hl, Nat.sub_self, e, List.replicate_succ, List.set_cons_zero, List.take_succ_eq_append_getElem (by omega)]
  simp only [List.getD, List.getElem?_eq_getElem (show k < zs.length by omega), Option.getD_some, List.append_assoc, List.singleton_append]

theorem clone_nil (w : World) : Calls Trym.prog 13 #[.slice none 0 0] w fun e w' => e = .returned (.slice none 0 0) ∧ w' = w := by
  have heq := fun (w : World) (a : Option Addr) (n c : Nat) => Lib.run_eql_slice_nil (P := Trym.prog) w 22 5 a n c 0 0 Trym.underlying22
  go_enter Trym.func13, Trym.ntmps13
  go_wp2
  go_ret
  exact ⟨rfl, rfl⟩

theorem clone_some (x : Addr) (n cap : Nat) (zs : List Int) (w : World) (h : Bs w (some x) n cap zs) (hn : n ≤ 16777216) :
    Calls Trym.prog 13 #[.slice (some x) n cap] w fun e w' => e = .returned (.slice (some ⟨w.heap.size, 0, none⟩) n n) ∧ Bs w' (some ⟨w.heap.size, 0, none⟩) n n zs ∧ Below w.heap.size w w' := by
  obtain ⟨i0, hi, hz0, hz1, hz2⟩ := info_parts info5
  have HL : Hid (zs.length = n) := h.len
  have heq := fun (w : World) (a : Option Addr) (n c : Nat) => Lib.run_eql_slice_nil (P := Trym.prog) w 22 5 a n c 0 0 Trym.underlying22
  go_enter Trym.func13, Trym.ntmps13
  go_wp2_with (at_make; refine wpList_make_full _ rfl _ _ 22 rfl w.heap.size 5 i0 (.int .u8 0) 1 Trym.underlying22 hi hz0 hz1 _ _ _ _ n rfl rfl rfl rfl ?b2 ?b3 (Nat.le_refl _) ?_)
  case b2 => rw [hz2]; omega
  case b3 => unfold maxLen; omega
  intro w0 hown0 hgrow0
  have hown1 : w0.ownsRow w.heap.size 5 1 (.slice (some ⟨w.heap.size, 0, none⟩) n n) n ((part zs 0 n).map (Value.int .u8)) := by
    rw [part_zero, List.map_replicate, ← toList_madeCells_one, ← Nat.mul_one n]; simpa using hown0
  clear hown0
  have hb0 : Below w.heap.size w w0 := (Below.refl _ _).grown hgrow0 (Nat.le_refl _) (fun k h => by cases h)
  clear hgrow0
  go_wp2
  go_loopw [4] (fun s wr => ∃ k : Nat, k ≤ n ∧ s = .int .i64 k ∧ Hid (wr.ownsRow w.heap.size 5 1 (.slice (some ⟨w.heap.size, 0, none⟩) n n) n ((part zs k n).map (Value.int .u8))) ∧ Below w.heap.size w wr)
    (fun s _ => n - (intOf s).toNat)
  case atStart => exact ⟨0, Nat.zero_le _, rfl, hown1, hb0⟩
  case round =>
    obtain ⟨k, hk, rfl, HO, hb⟩ := hrel
    by_cases hlt : k < n
    · obtain ⟨b, off, hx, HC⟩ := h.at (by omega)
      obtain rfl := Option.some.inj hx
      clear hx
      obtain ⟨c, HK, hck⟩ := byteAt HC hlt
      have hlb : b < w.heap.size := World.block_lt_of_cell? (h := hck)
      have hcr : wr.cell? ⟨b, off + k, none⟩ = some (.int .u8 c) := (hb.cell (p := ⟨b, off + k, none⟩) hlb).trans hck
      obtain ⟨c0, hcd⟩ : ∃ c0, wr.cell? ⟨w.heap.size, k, none⟩ = some (.int .u8 c0) := by
        refine ⟨(part zs k n).getD k 0, ?_⟩
        have hl := part_len zs k n HL.out hk
        rw [HO.out.cellAt k (by omega)]
        simp [List.getD, show k < (part zs k n).length by omega]
      have hfz : wr.frozen? ⟨w.heap.size, k, none⟩ = false := HO.out.frozenAt k
      have HS : Hid ((wr.setCell ⟨w.heap.size, k, none⟩ (.int .u8 c)).ownsRow w.heap.size 5 1 (.slice (some ⟨w.heap.size, 0, none⟩) n n) n ((part zs (k + 1) n).map (Value.int .u8))) := by
        have := (HO.out.stored k (.int .u8 c)).1
        rw [← part_set zs k n HL.out hlt, HK.out, List.map_set]; exact this
      have hbs : Below w.heap.size w (wr.setCell ⟨w.heap.size, k, none⟩ (.int .u8 c)) := hb.setCell (Nat.le_refl _) _
      clear hck
      go_wp2
      go_roundw
      case rel => exact ⟨k + 1, by omega, by go_num, HS, hbs⟩
      case measure => simp [intOf]; omega
    · have HF : Hid (part zs k n = zs) := by
        have : k = n := by omega
        subst this; exact part_all zs k HL.out
      go_wp2
      go_ret
      have HO' := HO.out
      rw [HF.out] at HO'
      exact ⟨rfl, bs_of_owns HO' h.byte, hb⟩

/-- zzClone, of whatever slice of bytes. -/
theorem zzClone_calls (a : Option Addr) (n cap : Nat) (zs : List Int) (w : World) (h : Bs w a n cap zs) (hn : n ≤ 16777216) :
    Calls Trym.prog 13 #[.slice a n cap] w fun e w' => ∃ a' cap', e = .returned (.slice a' n cap') ∧ Bs w' a' n cap' zs ∧ Below w.heap.size w w' := by
  cases a with
  | none =>
    obtain ⟨rfl, rfl⟩ := h.2.2.2.2.1 rfl
    refine (clone_nil w).mono fun e w' ⟨he, hw⟩ => ?_
    subst hw
    exact ⟨none, 0, he, h, Below.refl _ _⟩
  | some x => exact (clone_some x n cap zs w h hn).mono fun e w' ⟨he, hb, hbel⟩ => ⟨_, _, he, hb, hbel⟩

/-- zzOne: one byte in a new slice. -/
theorem zzOne_calls (c : Int) (w : World) (h0 : 0 ≤ c) (h1 : c ≤ 255) :
    Calls Trym.prog 16 #[.int .u8 c] w fun e w' => ∃ a' cap', e = .returned (.slice a' 1 cap') ∧ Bs w' a' 1 cap' [c] ∧ Below w.heap.size w w' := by
  go_enter Trym.func16, Trym.ntmps16
  go_wp2
  go_ret
  refine ⟨_, _, rfl, ?_, (Below.refl _ _).alloc (Nat.le_refl _) _⟩
  have := World.ownsRow_lit (base := w.heap.size) (e := 5) (size := 1) w #[.int .u8 c] 1 (Nat.le_refl _) (by unfold maxLen; omega) rfl
  exact bs_of_owns (zs := [c]) this (by intro z hz; simp at hz; omega)

theorem map_oneCell (zs : List Int) : ∀ u ∈ zs.map (Value.int .u8), u.oneCell' = true := ints_oneCell _ zs

/-- The cells of a slice of bytes, as the laws on append ask for them. -/
theorem Bs.cells {w : World} {a : Option Addr} {n cap : Nat} {zs : List Int} (h : Bs w a n cap zs) : ∀ ad, a = some ad → ∀ j u, (zs.map (Value.int .u8))[j]? = some u → w.cell? (ad.add j) = some u := by
  intro ad had j u hu
  have hj : j < n := by
    have := (List.getElem?_eq_some_iff.1 hu).1
    rw [List.length_map, h.len] at this; exact this
  obtain ⟨b, off, ha, hc⟩ := h.2.2.2.2.2 (by omega)
  rw [had] at ha
  obtain rfl := Option.some.inj ha
  rw [Addr.add_lit, hc j hj, ← hu]
  simp [List.getD, show j < zs.length by rw [h.len]; exact hj]

set_option maxHeartbeats 1000000 in
/-- zzCat: the two, one behind the other, in a new slice. -/
theorem zzCat_calls (a1 : Option Addr) (n1 c1 : Nat) (xs : List Int) (a2 : Option Addr) (n2 c2 : Nat) (ys : List Int) (w : World) (h1 : Bs w a1 n1 c1 xs) (h2 : Bs w a2 n2 c2 ys) (hn1 : n1 ≤ 16777216) (hn2 : n2 ≤ 16777216) :
    Calls Trym.prog 15 #[.slice a1 n1 c1, .slice a2 n2 c2] w fun e w' => ∃ a' cap', e = .returned (.slice a' (n1 + n2) cap') ∧ Bs w' a' (n1 + n2) cap' (xs ++ ys) ∧ Below w.heap.size w w' := by
  obtain ⟨i0, hi, hz0, hz1, hz2⟩ := info_parts info5
  go_enter Trym.func15, Trym.ntmps15
  go_wp2_with (at_make; refine wpList_make_own _ rfl _ _ 22 rfl w.heap.size 5 i0 (.int .u8 0) 1 Trym.underlying22 hi hz0 hz1 _ _ _ (n1 + n2) rfl rfl (by omega) ?b2 ?b3 (Nat.le_refl _) ?_)
  case b2 => rw [hz2]; omega
  case b3 => unfold maxLen; omega
  intro w0 hown0 hgrow0
  have hb0 : Below w.heap.size w w0 := (Below.refl _ _).grown hgrow0 (Nat.le_refl _) (fun k h => by cases h)
  have k1 := h1.later hb0
  clear hgrow0
  go_wp2_with (first | (at_builtin; refine wpList_append_fits_any _ rfl (.tmp 12) (.tmp 13) 22 rfl w.heap.size 5 i0 1 Trym.underlying22 hi hz1 w.heap.size 0 (n1 + n2) _ rfl hown0 a1 n1 c1 (xs.map (Value.int .u8)) rfl (by simp [h1.len]) h1.2.2.2.2.1 k1.cells (map_oneCell xs) (by omega) ?_; intro w1 hown1 hgrow1; simp only [Nat.zero_add, List.nil_append] at hown1) | (at_builtin; refine wpList_append_fits_any _ rfl (.tmp 15) (.tmp 16) 22 rfl w.heap.size 5 i0 1 Trym.underlying22 hi hz1 w.heap.size n1 (n1 + n2) _ rfl hown1 a2 n2 c2 (ys.map (Value.int .u8)) rfl (by simp [h2.len]) h2.2.2.2.2.1 (h2.later (hb0.grown hgrow1 hb0.size (fun k hk => by cases hk; exact Nat.le_refl _))).cells (map_oneCell ys) (by omega) ?_; intro w2 hown2 hgrow2))
  go_ret
  rw [← List.map_append] at hown2
  have hb1 : Below w.heap.size w w1 := hb0.grown hgrow1 hb0.size (fun k hk => by cases hk; exact Nat.le_refl _)
  exact ⟨_, _, rfl, bs_of_owns hown2 (fun z hz => by rcases List.mem_append.1 hz with hz | hz; exact h1.byte z hz; exact h2.byte z hz), hb1.grown hgrow2 hb1.size (fun k hk => by cases hk; exact Nat.le_refl _)⟩

end Go.Proofs.Qxb6001341aMods
