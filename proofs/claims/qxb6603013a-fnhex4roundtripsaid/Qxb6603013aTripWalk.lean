/-
  FnHex4RoundTrip (function 4): the walks.
-/
import Derived.Test.Qxb6603013aDigit
import Derived.Test.Qxb6603013aCloneRow
namespace Go.Proofs.Qxb6603013a.fnHex4RoundTrip
open Go.RowKit
open Go.Proofs.Qxb6603013a.Hex (hexv dig)
open Go.Proofs.Qxb6603013a.Clone

def wt : Nat → Int | 0 => 4096 | 1 => 256 | 2 => 16 | 3 => 1 | _ => 0
def sc : Nat → Nat | 0 => 65536 | 1 => 4096 | 2 => 256 | 3 => 16 | _ => 1

/-- The digits so far. -/
def Dg (rn k : Nat) (ds : List Int) : Prop := ds.length = k ∧ (∀ n ∈ ds, 0 ≤ n ∧ n ≤ 255) ∧ ∀ rest, hexv (ds ++ rest) 0 = hexv rest ((rn / sc k : Nat) : Int)

theorem dg_zero (rn : Nat) (h : rn < 65536) : Dg rn 0 [] := by
  refine ⟨rfl, by simp, fun rest => ?_⟩
  have : rn / sc 0 = 0 := by simp only [sc]; omega
  rw [this]; rfl

theorem dg_step (rn k vn : Nat) (hk : k < 4) (hv : vn = rn % sc k) (ds : List Int) (hdg : Dg rn k ds) (c : Int) (hc0 : 0 ≤ c) (hc1 : c ≤ 255) (hc : dig c = some ((vn / sc (k + 1) : Nat) : Int)) :
    Dg rn (k + 1) (ds ++ [c]) := by
  obtain ⟨h1, h2, h3⟩ := hdg
  refine ⟨by simp [h1], ?_, fun rest => ?_⟩
  · intro n hn
    rcases List.mem_append.1 hn with h | h
    · exact h2 n h
    · simp at h; omega
  · rw [List.append_assoc, h3]
    show hexv (c :: rest) _ = _
    have e : ((rn / sc k : Nat) : Int) * 16 + ((vn / sc (k + 1) : Nat) : Int) = ((rn / sc (k + 1) : Nat) : Int) := by
      subst hv
      match k, hk with
      | 0, _ => simp only [sc]; omega
      | 1, _ => simp only [sc]; omega
      | 2, _ => simp only [sc]; omega
      | 3, _ => simp only [sc]; omega
    simp only [hexv, hc, e]

theorem lo_dig (d : Nat) (h : d < (ByteArray.mk #[48, 49, 50, 51, 52, 53, 54, 55, 56, 57, 97, 98, 99, 100, 101, 102]).size) :
    dig (((ByteArray.mk #[48, 49, 50, 51, 52, 53, 54, 55, 56, 57, 97, 98, 99, 100, 101, 102])[d]'h).toNat : Int) = some (d : Int) := by
  rw [Hex.lo_at d h, Hex.dig_lo d h]

theorem up_dig (d : Nat) (h : d < (ByteArray.mk #[48, 49, 50, 51, 52, 53, 54, 55, 56, 57, 65, 66, 67, 68, 69, 70]).size) :
    dig (((ByteArray.mk #[48, 49, 50, 51, 52, 53, 54, 55, 56, 57, 65, 66, 67, 68, 69, 70])[d]'h).toNat : Int) = some (d : Int) := by
  rw [Hex.up_at d h, Hex.dig_up d h]

theorem byte_le (x : UInt8) : (x.toNat : Int) ≤ 255 := by
  have := x.toNat_lt
  omega

theorem take_snoc (zs : List Int) (t : Nat) (h : t < zs.length) : zs.take (t + 1) = zs.take t ++ [zs[t]?.getD 0] := by
  rw [List.take_succ_eq_append_getElem h]; simp [h]

theorem take_range (zs : List Int) (t : Nat) (h : ∀ j : Nat, 0 ≤ zs[j]?.getD 0 ∧ zs[j]?.getD 0 ≤ 255) : ∀ n ∈ zs.take t, 0 ≤ n ∧ n ≤ 255 := by
  intro n hn
  obtain ⟨j, hj, rfl⟩ := List.mem_iff_getElem.1 (List.mem_of_mem_take hn)
  have := h j
  simpa [hj] using this

theorem all_range (ds xs : List Int) (h1 : ∀ n ∈ ds, 0 ≤ n ∧ n ≤ 255) (h2 : ∀ n ∈ xs, 0 ≤ n ∧ n ≤ 255) (j : Nat) : 0 ≤ (ds ++ xs)[j]?.getD 0 ∧ (ds ++ xs)[j]?.getD 0 ≤ 255 := by
  by_cases hj : j < (ds ++ xs).length
  · rw [List.getElem?_eq_getElem hj]
    have hm := List.getElem_mem hj
    rcases List.mem_append.1 hm with h | h
    · exact h1 _ h
    · exact h2 _ h
  · rw [List.getElem?_eq_none (by omega)]
    simp

theorem dg_end (rn : Nat) (ds xs : List Int) (h : Dg rn 4 ds) : hexv ((ds ++ xs).take 4) 0 = (rn : Int) := by
  obtain ⟨h1, _, h3⟩ := h
  rw [List.take_left' h1]
  have := h3 []
  rw [List.append_nil] at this
  rw [this]
  simp [hexv, sc]

theorem walk_huge (r mask : Int) (a : Option Addr) (len cap : Nat) (w : World) (hl : 1048576 < len) :
    Calls Try.prog 4 #[.int .i32 r, .int .u8 mask, .slice a len cap] w fun e w' => e = .returned (.bool true) ∧ Below w.heap.size w w' := by
  go_enter Try.func4, Try.ntmps4
  go_wp2
  go_ret
  exact ⟨rfl, Below.refl _ _⟩

theorem walk_out (r mask : Int) (a : Option Addr) (len cap : Nat) (w : World) (hl : len ≤ 1048576) (hr : r < 0 ∨ 65535 < r) :
    Calls Try.prog 4 #[.int .i32 r, .int .u8 mask, .slice a len cap] w fun e w' => e = .returned (.bool true) ∧ Below w.heap.size w w' := by
  rcases hr with hr | hr
  · go_enter Try.func4, Try.ntmps4
    go_wp2
    go_ret
    exact ⟨rfl, Below.refl _ _⟩
  · have hr' : ¬ r < 0 := by omega
    go_enter Try.func4, Try.ntmps4
    go_wp2
    go_ret
    exact ⟨rfl, Below.refl _ _⟩

set_option maxHeartbeats 1000000 in
theorem walk_in (rn : Nat) (hrn : rn < 65536) (mask : Int) (a : Option Addr) (len cap : Nat) (zs : List Int) (w : World) (hl : len ≤ 1048576) (hrow : Row w a len cap zs) :
    Calls Try.prog 4 #[.int .i32 rn, .int .u8 mask, .slice a len cap] w fun e w' => e = .returned (.bool true) ∧ Below w.heap.size w w' := by
  obtain ⟨i0, hi, hz0, hz1, hz2⟩ := info_parts info5
  have hr1 : ¬ (rn : Int) < 0 := by omega
  have hr2 : ¬ (65535 : Int) < rn := by omega
  go_enter Try.func4, Try.ntmps4
  go_wp2_with (first | (go_at_call 12; go_in) | (go_at_call 9; refine (clone_row a len cap zs _ hrow hl).mono ?_; rintro e w1 ⟨ta, rfl, hcp⟩) | (at_make; refine wpList_make_own _ rfl _ _ 22 rfl w1.heap.size 5 i0 (.int .u8 0) 1 Try.underlying22 hi hz0 hz1 _ _ _ (4 + len) rfl rfl (by omega) ?b2 ?b3 (Nat.le_refl _) ?_))
  case b2 => rw [hz2]; omega
  case b3 => unfold maxLen; omega
  intro w2 hown2 hgrow2
  go_wp2_with fail
  go_loopw [7, 8, 9, 10] (fun bu v we i wr => ∃ (k vn : Nat) (ds : List Int), k ≤ 4 ∧ i = .int .i64 k ∧ we = .int .i64 (wt k) ∧ vn = rn % sc k ∧ v = .int .i64 vn ∧ bu = .slice (some ⟨w1.heap.size, 0, none⟩) k (4 + len) ∧
      wr.ownsRow w1.heap.size 5 1 (.slice (some ⟨w1.heap.size, 0, none⟩) k (4 + len)) k (ds.map (Value.int .u8)) ∧ Dg rn k ds ∧ Below w1.heap.size w1 wr)
    (fun _ _ _ i _ => 4 - (intOf i).toNat)
  case atStart => exact ⟨0, rn, [], by omega, rfl, rfl, by simp only [sc]; omega, rfl, rfl, hown2, dg_zero rn hrn, (Below.refl _ _).grown hgrow2 (Nat.le_refl _) (fun k h => by cases h)⟩
  case round =>
    obtain ⟨k, vn, ds, hk, rfl, rfl, hv, rfl, rfl, hown, hdg, hnx⟩ := hrel
    have HV : Hid (vn = rn % sc k) := hv
    have HDG : Hid (Dg rn k ds) := hdg
    clear hv hdg
    have hsz := hnx.size
    by_cases hk4 : k < 4
    · have hk' : k = 0 ∨ k = 1 ∨ k = 2 ∨ k = 3 := by omega
      clear hk hk4 hown2
      rcases hk' with rfl | rfl | rfl | rfl
      · have e1 : wt 0 = 4096 := rfl
        have hvb : vn < 65536 := by have := HV.out; simp only [sc] at this; omega
        go_wp2_with (first
          | (at_builtin; refine wpList_append_fits _ rfl (.tmp 55) (.tmp 58) 22 rfl w1.heap.size 5 i0 1 Try.underlying22 hi hz1 w1.heap.size _ (4 + len) _ rfl (hown.alloc _) ⟨wr.heap.size, 0, none⟩ 1 1 [_] rfl rfl (cell_one_new _ _ _) (by intro u hu; simp at hu; subst hu; rfl) (by omega) ?_; intro w3 hown3 hgrow3)
          | (at_builtin; refine wpList_append_fits _ rfl (.tmp 60) (.tmp 63) 22 rfl w1.heap.size 5 i0 1 Try.underlying22 hi hz1 w1.heap.size _ (4 + len) _ rfl (hown.alloc _) ⟨wr.heap.size, 0, none⟩ 1 1 [_] rfl rfl (cell_one_new _ _ _) (by intro u hu; simp at hu; subst hu; rfl) (by omega) ?_; intro w3 hown3 hgrow3))
        all_goals
          go_roundw
          case rel => exact ⟨1, rn % sc 1, ds ++ [_], by omega, rfl, rfl, rfl, by have := HV.out; simp only [sc] at this ⊢; first | (congr 1; omega) | (simp; omega), rfl, by rw [List.map_append]; exact hown3, dg_step rn 0 vn (by omega) HV.out ds HDG.out _ (Int.natCast_nonneg _) (byte_le _) (by first | exact (lo_dig _ _).trans (by simp [sc]) | exact (up_dig _ _).trans (by simp [sc])), (hnx.alloc hnx.size _).grown hgrow3 (by simp; omega) (fun k hk => by cases hk; exact Nat.le_refl _)⟩
          case measure => simp [intOf]
      · have e1 : wt 1 = 256 := rfl
        have hvb : vn < 4096 := by have := HV.out; simp only [sc] at this; omega
        go_wp2_with (first
          | (at_builtin; refine wpList_append_fits _ rfl (.tmp 55) (.tmp 58) 22 rfl w1.heap.size 5 i0 1 Try.underlying22 hi hz1 w1.heap.size _ (4 + len) _ rfl (hown.alloc _) ⟨wr.heap.size, 0, none⟩ 1 1 [_] rfl rfl (cell_one_new _ _ _) (by intro u hu; simp at hu; subst hu; rfl) (by omega) ?_; intro w3 hown3 hgrow3)
          | (at_builtin; refine wpList_append_fits _ rfl (.tmp 60) (.tmp 63) 22 rfl w1.heap.size 5 i0 1 Try.underlying22 hi hz1 w1.heap.size _ (4 + len) _ rfl (hown.alloc _) ⟨wr.heap.size, 0, none⟩ 1 1 [_] rfl rfl (cell_one_new _ _ _) (by intro u hu; simp at hu; subst hu; rfl) (by omega) ?_; intro w3 hown3 hgrow3))
        all_goals
          go_roundw
          case rel => exact ⟨2, rn % sc 2, ds ++ [_], by omega, rfl, rfl, rfl, by have := HV.out; simp only [sc] at this ⊢; first | (congr 1; omega) | (simp; omega), rfl, by rw [List.map_append]; exact hown3, dg_step rn 1 vn (by omega) HV.out ds HDG.out _ (Int.natCast_nonneg _) (byte_le _) (by first | exact (lo_dig _ _).trans (by simp [sc]) | exact (up_dig _ _).trans (by simp [sc])), (hnx.alloc hnx.size _).grown hgrow3 (by simp; omega) (fun k hk => by cases hk; exact Nat.le_refl _)⟩
          case measure => simp [intOf]
      · have e1 : wt 2 = 16 := rfl
        have hvb : vn < 256 := by have := HV.out; simp only [sc] at this; omega
        go_wp2_with (first
          | (at_builtin; refine wpList_append_fits _ rfl (.tmp 55) (.tmp 58) 22 rfl w1.heap.size 5 i0 1 Try.underlying22 hi hz1 w1.heap.size _ (4 + len) _ rfl (hown.alloc _) ⟨wr.heap.size, 0, none⟩ 1 1 [_] rfl rfl (cell_one_new _ _ _) (by intro u hu; simp at hu; subst hu; rfl) (by omega) ?_; intro w3 hown3 hgrow3)
          | (at_builtin; refine wpList_append_fits _ rfl (.tmp 60) (.tmp 63) 22 rfl w1.heap.size 5 i0 1 Try.underlying22 hi hz1 w1.heap.size _ (4 + len) _ rfl (hown.alloc _) ⟨wr.heap.size, 0, none⟩ 1 1 [_] rfl rfl (cell_one_new _ _ _) (by intro u hu; simp at hu; subst hu; rfl) (by omega) ?_; intro w3 hown3 hgrow3))
        all_goals
          go_roundw
          case rel => exact ⟨3, rn % sc 3, ds ++ [_], by omega, rfl, rfl, rfl, by have := HV.out; simp only [sc] at this ⊢; first | (congr 1; omega) | (simp; omega), rfl, by rw [List.map_append]; exact hown3, dg_step rn 2 vn (by omega) HV.out ds HDG.out _ (Int.natCast_nonneg _) (byte_le _) (by first | exact (lo_dig _ _).trans (by simp [sc]) | exact (up_dig _ _).trans (by simp [sc])), (hnx.alloc hnx.size _).grown hgrow3 (by simp; omega) (fun k hk => by cases hk; exact Nat.le_refl _)⟩
          case measure => simp [intOf]
      · have e1 : wt 3 = 1 := rfl
        have hvb : vn < 16 := by have := HV.out; simp only [sc] at this; omega
        go_wp2_with (first
          | (at_builtin; refine wpList_append_fits _ rfl (.tmp 55) (.tmp 58) 22 rfl w1.heap.size 5 i0 1 Try.underlying22 hi hz1 w1.heap.size _ (4 + len) _ rfl (hown.alloc _) ⟨wr.heap.size, 0, none⟩ 1 1 [_] rfl rfl (cell_one_new _ _ _) (by intro u hu; simp at hu; subst hu; rfl) (by omega) ?_; intro w3 hown3 hgrow3)
          | (at_builtin; refine wpList_append_fits _ rfl (.tmp 60) (.tmp 63) 22 rfl w1.heap.size 5 i0 1 Try.underlying22 hi hz1 w1.heap.size _ (4 + len) _ rfl (hown.alloc _) ⟨wr.heap.size, 0, none⟩ 1 1 [_] rfl rfl (cell_one_new _ _ _) (by intro u hu; simp at hu; subst hu; rfl) (by omega) ?_; intro w3 hown3 hgrow3))
        all_goals
          go_roundw
          case rel => exact ⟨4, rn % sc 4, ds ++ [_], by omega, rfl, rfl, rfl, by have := HV.out; simp only [sc] at this ⊢; first | (congr 1; omega) | (simp; omega), rfl, by rw [List.map_append]; exact hown3, dg_step rn 3 vn (by omega) HV.out ds HDG.out _ (Int.natCast_nonneg _) (byte_le _) (by first | exact (lo_dig _ _).trans (by simp [sc]) | exact (up_dig _ _).trans (by simp [sc])), (hnx.alloc hnx.size _).grown hgrow3 (by simp; omega) (fun k hk => by cases hk; exact Nat.le_refl _)⟩
          case measure => simp [intOf]
    · have hk5 : k = 4 := by omega
      subst hk5
      clear hown2 HV hk hk4
      go_wp2_with fail
      go_loopw [7, 12] (fun bu i wx => ∃ (t : Nat), t ≤ len ∧ i = .int .i64 t ∧ bu = .slice (some ⟨w1.heap.size, 0, none⟩) (4 + t) (4 + len) ∧
          wx.ownsRow w1.heap.size 5 1 (.slice (some ⟨w1.heap.size, 0, none⟩) (4 + t) (4 + len)) (4 + t) ((ds ++ zs.take t).map (Value.int .u8)) ∧ Below w1.heap.size w1 wx)
        (fun _ i _ => len - (intOf i).toNat)
      case atStart => exact ⟨0, by omega, rfl, rfl, by simpa using hown, hnx⟩
      case round =>
        obtain ⟨t, ht, rfl, rfl, hownx, hnxx⟩ := hrel
        have hszx := hnxx.size
        by_cases htl : t < len
        · obtain rfl := hcp.addr (by omega)
          have hcell : wr.cell? ⟨w.heap.size, t, none⟩ = some (.int .u8 (zs.getD t 0)) := (hnxx.cell (hcp.size (by omega))).trans (hcp.cell t htl)
          go_wp2_with (at_builtin; refine wpList_append_fits _ rfl (.tmp 71) (.tmp 76) 22 rfl w1.heap.size 5 i0 1 Try.underlying22 hi hz1 w1.heap.size _ (4 + len) _ rfl (hownx.alloc _) ⟨wr.heap.size, 0, none⟩ 1 1 [_] rfl rfl (cell_one_new _ _ _) (by intro u hu; simp at hu; subst hu; rfl) (by omega) ?_; intro w3 hown3 hgrow3)
          have htz : t < zs.length := by have := hrow.len_le; omega
          go_roundw
          case rel => (repeat apply Exists.intro); refine ⟨?_, rfl⟩; exact ⟨t + 1, by omega, by go_num, rfl, by rw [take_snoc zs t htz, ← List.append_assoc, List.map_append]; exact hown3, (hnxx.alloc hnxx.size _).grown hgrow3 (by simp; omega) (fun k hk => by cases hk; exact Nat.le_refl _)⟩
          case measure => simp [intOf]; omega
        · have htl' : t = len := by omega
          subst htl'
          have hdl := HDG.out.1
          have hcells : ∀ j, j < 4 → wr.cell? ⟨w1.heap.size, 0 + j, none⟩ = some (.int .u8 ((ds ++ zs.take t).getD j 0)) := fun j hj => by
            have h1 := hownx.cellAt j (by omega)
            have h2 : j < (ds ++ zs.take t).length := by simp; omega
            rw [Nat.zero_add, h1]
            simp only [List.getElem?_map, List.getD, List.getElem?_eq_getElem h2, Option.map_some, Option.getD_some]
          have hR := all_range ds (zs.take t) HDG.out.2.1 (take_range zs t hrow.range)
          have hH : hexv ((ds ++ zs.take t).take 4) 0 = (rn : Int) := dg_end rn ds (zs.take t) HDG.out
          have HC := Hex.zz_long w1.heap.size 0 (4 + t) (4 + t) (ds ++ zs.take t) wr (by omega) (Nat.le_refl _) (by omega) hcells hR (by simp; omega)
          rw [hH] at HC
          clear hown hcells hR hH
          go_wp2_with (go_at_call 10; refine HC.mono ?_; rintro e w5 ⟨rfl, rfl⟩)
          go_ret
          exact ⟨rfl, hcp.below.trans (hnxx.mono hcp.below.size)⟩
end Go.Proofs.Qxb6603013a.fnHex4RoundTrip
