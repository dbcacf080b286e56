/-
  zzUtoa: a number's digits, in a new slice.
-/
import Derived.Test.Qxb6001341aModsClone
namespace Go.Proofs.Qxb6001341aMods
open Go.RowKit
open Pl (digB)

/-- What is needed of a number's digits: some; no more than twenty; a leading nought only where it is the only one. -/
def Digs (D : List Int) : Prop := 0 < D.length ∧ D.length ≤ 20 ∧ (∀ z ∈ D, digB z = true) ∧ (D.getD 0 0 = 48 → D.length = 1)

theorem utoa_zero (w : World) : Calls Trym.prog 21 #[.int .u64 0] w fun e w' => ∃ a' cap' D m, e = .returned (.slice a' m cap') ∧ Bs w' a' m cap' D ∧ Below w.heap.size w w' ∧ Digs D := by
  go_enter Trym.func21, Trym.ntmps21
  go_wp2
  go_ret
  refine ⟨_, _, [48], _, rfl, ?_, (Below.refl _ _).alloc (Nat.le_refl _) _, by decide, by decide, by decide, fun _ => rfl⟩
  have := World.ownsRow_lit (base := w.heap.size) (e := 5) (size := 1) w #[.int .u8 48] 1 (Nat.le_refl _) (by unfold maxLen; omega) rfl
  exact bs_of_owns (zs := [48]) this (by intro z hz; simp at hz; omega)

/-- The buffer between two rounds: 'p' places are free, 'u' is still to be written. -/
def Buf (w wr : World) (L : List Int) (p u : Nat) : Prop :=
  L.length = 20 ∧ (∀ j, j < 20 → wr.cell? ⟨w.heap.size, j, none⟩ = some (.int .u8 (L.getD j 0)) ∧ wr.frozen? ⟨w.heap.size, j, none⟩ = false) ∧
  (∀ j, p ≤ j → j < 20 → digB (L.getD j 0) = true) ∧ u < 10 ^ p ∧ (p = 20 → 0 < u) ∧ (p < 20 → u = 0 → L.getD p 0 ≠ 48) ∧ Below w.heap.size w wr

theorem getD_set (L : List Int) (q j : Nat) (c : Int) (hq : q < L.length) : (L.set q c).getD j 0 = if j = q then c else L.getD j 0 := by
  by_cases h : j = q
  · subst h; simp [List.getD, hq]
  · rw [if_neg h]; simp [List.getD, List.getElem?_set_ne (Ne.symm h)]

theorem Buf.step {w wr : World} {L : List Int} {q u : Nat} (h : Buf w wr L (q + 1) u) (hq : q < 20) (hu : 0 < u) :
    Buf w (wr.setCell ⟨w.heap.size, q, none⟩ (.int .u8 (48 + (u : Int) % 10))) (L.set q (48 + (u : Int) % 10)) q (u / 10) := by
  obtain ⟨h1, h2, h3, h4, h5, h6, h7⟩ := h
  have hq' : q < L.length := by omega
  refine ⟨by simpa using h1, fun j hj => ⟨?_, ?_⟩, fun j a b => ?_, ?_, fun e => by omega, fun _ e => ?_, h7.setCell (Nat.le_refl _) _⟩
  · rw [getD_set L q j _ hq']
    by_cases e : j = q
    · subst e; rw [if_pos rfl]; exact World.cell?_setCell_same _ _ _ (h2 j hj).1
    · rw [if_neg e, World.cell?_setCell_other (h := by intro hh; injection hh; omega)]; exact (h2 j hj).1
  · rw [World.frozen?_setCell]; exact (h2 j hj).2
  · rw [getD_set L q j _ hq']
    by_cases e : j = q
    · rw [if_pos e]; simp [digB]; omega
    · rw [if_neg e]; exact h3 j (by omega) b
  · rw [Nat.pow_succ] at h4; omega
  · rw [getD_set L q q _ hq', if_pos rfl]; omega

theorem rep_at (x : Value) (n j : Nat) (h : j < n) : (List.replicate n x).toArray[j]? = some x := by
  rw [List.getElem?_toArray, List.getElem?_replicate, if_pos h]

theorem buf_new (w : World) (j : Nat) (hj : j < 20) : (w.alloc (.cells (List.replicate 20 (Value.int .u8 0)).toArray 42)).cell? ⟨w.heap.size, j, none⟩ = some (.int .u8 ((List.replicate 20 (0 : Int)).getD j 0)) ∧
    (w.alloc (.cells (List.replicate 20 (Value.int .u8 0)).toArray 42)).frozen? ⟨w.heap.size, j, none⟩ = false := by
  refine ⟨?_, ?_⟩
  · rw [World.cell?_alloc_new, rep_at _ 20 j hj, List.getD_eq_getElem?_getD, List.getElem?_replicate, if_pos hj]; rfl
  · simp

/-- What the buffer holds in the end. -/
theorem Buf.digs {w wr : World} {L : List Int} {p : Nat} (h : Buf w wr L p 0) (hp : p < 20) : Digs (L.drop p) := by
  obtain ⟨h1, h2, h3, h4, h5, h6, h7⟩ := h
  refine ⟨by simp; omega, by simp; omega, fun z hz => ?_, fun h48 => ?_⟩
  · obtain ⟨j, hj, rfl⟩ := List.mem_iff_getElem.1 hz
    simp at hj
    have := h3 (p + j) (by omega) (by omega)
    simpa [List.getD, List.getElem?_eq_getElem (show p + j < L.length by omega)] using this
  · exfalso
    apply h6 hp rfl
    simpa [List.getD] using h48

theorem utoa_some (v : Nat) (h0 : 0 < v) (h1 : v < 18446744073709551616) (w : World) : Calls Trym.prog 21 #[.int .u64 v] w fun e w' => ∃ a' cap' D m, e = .returned (.slice a' m cap') ∧ Bs w' a' m cap' D ∧ Below w.heap.size w w' ∧ Digs D := by
  have hne : ((v : Int) == 0) = false := beq_eq_false_iff_ne.2 (by omega)
  go_enter Trym.func21, Trym.ntmps21
  go_wp2_with fail
  go_loopw [0, 4] (fun sv sn wr => ∃ (u p : Nat) (L : List Int), p ≤ 20 ∧ u ≤ v ∧ sv = .int .u64 u ∧ sn = .int .i64 p ∧ Hid (Buf w wr L p u)) (fun sv _ _ => (intOf sv).toNat)
  case atStart =>
    refine ⟨v, 20, List.replicate 20 0, Nat.le_refl _, Nat.le_refl _, rfl, rfl, ?_⟩
    refine ⟨rfl, fun j hj => ?_, fun j a b => by omega, by omega, fun _ => h0, fun h => by omega, (Below.refl _ _).alloc (Nat.le_refl _) _⟩
    exact ⟨(buf_new w j hj).1, (buf_new w j hj).2⟩
  case round =>
    obtain ⟨u, p, L, hp, hu, rfl, rfl, HB⟩ := hrel
    by_cases hpos : 0 < u
    · obtain ⟨q, rfl⟩ : ∃ q, p = q + 1 := by
        cases p with
        | zero => have := HB.out.2.2.2.1; simp at this; omega
        | succ q => exact ⟨q, rfl⟩
      have HN := HB.out.step (by omega) hpos
      obtain ⟨hc, hfz⟩ := HB.out.2.1 q (by omega)
      have HN' : Hid (Buf w (wr.setCell ⟨w.heap.size, q, none⟩ (.int .u8 (48 + (u : Int) % 10))) (L.set q (48 + (u : Int) % 10)) q (u / 10)) := HN
      clear HN
      go_wp2_with fail
      go_roundw
      case rel => exact ⟨u / 10, q, _, by omega, by omega, by go_num, rfl, HN'⟩
      case measure => simp [intOf]; omega
    · obtain rfl : u = 0 := by omega
      obtain ⟨wo, hwo⟩ : ∃ wo, wo = wr := ⟨_, rfl⟩
      subst hwo
      have hp20 : p < 20 := by
        rcases Nat.lt_or_ge p 20 with h | h
        · exact h
        · have := HB.out.2.2.2.2.1 (by omega); omega
      have HG := HB.out.digs hp20
      have hbr := HB.out.2.2.2.2.2.2
      have hcells := HB.out.2.1
      have hL := HB.out.1
      have hsz : w.heap.size < wo.heap.size := World.block_lt_of_cell? (h := (hcells 0 (by omega)).1)
      obtain ⟨i0, hi, hz0, hz1, hz2⟩ := info_parts info5
      obtain ⟨D, HD, HDl⟩ : ∃ D, Hid (L.drop p = D) ∧ Hid (D.length = 20 - p) := ⟨_, rfl, by show _ = _; simp [hL]⟩
      rw [HD.out] at HG
      have HG' : Hid (Digs D) := HG
      have HCELL : Hid (∀ j, j < 20 - p → wo.cell? ⟨w.heap.size, p + j, none⟩ = some (.int .u8 (D.getD j 0))) := by
        intro j hj
        rw [(hcells (p + j) (by omega)).1, ← HD.out]
        simp [List.getD]
      clear hL HB HG hcells
      go_wp2_with (at_make; refine wpList_make_full _ rfl _ _ 22 rfl wo.heap.size 5 i0 (.int .u8 0) 1 Trym.underlying22 hi hz0 hz1 _ _ _ _ (20 - p) rfl rfl (by omega) (by omega) ?b2 ?b3 (Nat.le_refl _) ?_)
      case b2 => rw [hz2]; omega
      case b3 => unfold maxLen; omega
      intro w0 hown0 hgrow0
      have hown1 : w0.ownsRow wo.heap.size 5 1 (.slice (some ⟨wo.heap.size, 0, none⟩) (20 - p) (20 - p)) (20 - p) ((part D 0 (20 - p)).map (Value.int .u8)) := by
        rw [part_zero, List.map_replicate, ← toList_madeCells_one, ← Nat.mul_one (20 - p)]; simpa using hown0
      clear hown0
      have hb0 : Below wo.heap.size wo w0 := (Below.refl _ _).grown hgrow0 (Nat.le_refl _) (fun k h => by cases h)
      clear hgrow0
      go_wp2_with fail
      go_loopw [6] (fun s w2 => ∃ k : Nat, k ≤ 20 - p ∧ s = .int .i64 k ∧ Hid (w2.ownsRow wo.heap.size 5 1 (.slice (some ⟨wo.heap.size, 0, none⟩) (20 - p) (20 - p)) (20 - p) ((part D k (20 - p)).map (Value.int .u8))) ∧ Below wo.heap.size wo w2)
        (fun s _ => 20 - p - (intOf s).toNat)
      case atStart => exact ⟨0, Nat.zero_le _, rfl, hown1, hb0⟩
      case round =>
        obtain ⟨k, hk, rfl, HO, hb⟩ := hrel
        by_cases hlt : k < 20 - p
        · obtain ⟨c, HK, hck⟩ : ∃ c, Hid (D.getD k 0 = c) ∧ wo.cell? ⟨w.heap.size, p + k, none⟩ = some (.int .u8 c) := ⟨_, rfl, HCELL.out k hlt⟩
          have hcr : wr.cell? ⟨w.heap.size, p + k, none⟩ = some (.int .u8 c) := (hb.cell (p := ⟨w.heap.size, p + k, none⟩) hsz).trans hck
          obtain ⟨c0, hcd⟩ : ∃ c0, wr.cell? ⟨wo.heap.size, k, none⟩ = some (.int .u8 c0) := by
            refine ⟨(part D k (20 - p)).getD k 0, ?_⟩
            have hl := part_len D k (20 - p) HDl.out hk
            rw [HO.out.cellAt k (by omega)]
            simp [List.getD, show k < (part D k (20 - p)).length by omega]
          have hfz : wr.frozen? ⟨wo.heap.size, k, none⟩ = false := HO.out.frozenAt k
          have HS : Hid ((wr.setCell ⟨wo.heap.size, k, none⟩ (.int .u8 c)).ownsRow wo.heap.size 5 1 (.slice (some ⟨wo.heap.size, 0, none⟩) (20 - p) (20 - p)) (20 - p) ((part D (k + 1) (20 - p)).map (Value.int .u8))) := by
            have := (HO.out.stored k (.int .u8 c)).1
            rw [← part_set D k (20 - p) HDl.out hlt, HK.out, List.map_set]; exact this
          have hbs : Below wo.heap.size wo (wr.setCell ⟨wo.heap.size, k, none⟩ (.int .u8 c)) := hb.setCell (Nat.le_refl _) _
          clear hck
          go_wp2_with fail
          go_roundw
          case rel => exact ⟨k + 1, by omega, by go_num, HS, hbs⟩
          case measure => simp [intOf]; omega
        · have HF : Hid (part D k (20 - p) = D) := by
            have e : k = 20 - p := by omega
            rw [e]; exact part_all D _ HDl.out
          go_wp2_with fail
          go_ret
          have HO' := HO.out
          rw [HF.out] at HO'
          exact ⟨_, _, D, _, rfl, bs_of_owns HO' (fun z hz => by have := HG'.out.2.2.1 z hz; simp [digB] at this; omega), Below.later hbr hb, HG'.out⟩

theorem zzUtoa_calls (v : Int) (h0 : 0 ≤ v) (h1 : v ≤ 18446744073709551615) (w : World) : Calls Trym.prog 21 #[.int .u64 v] w fun e w' => ∃ a' cap' D m, e = .returned (.slice a' m cap') ∧ Bs w' a' m cap' D ∧ Below w.heap.size w w' ∧ Digs D := by
  obtain ⟨n, rfl⟩ := Int.eq_ofNat_of_zero_le h0
  by_cases hn : n = 0
  · subst hn; exact utoa_zero w
  · exact utoa_some n (by omega) (by omega) w

end Go.Proofs.Qxb6001341aMods
