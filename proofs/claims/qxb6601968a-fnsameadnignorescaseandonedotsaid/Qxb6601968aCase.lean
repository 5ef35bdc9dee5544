/-
  asciiUpper and asciiLower (functions 16 and 17): their contracts.
-/
import Derived.Test.Qxb6601968aAdn
namespace Go.Proofs.Qxb6601968a.Adn
open Go.RowKit

theorem info5 : (Try.prog.info? 5).map (fun i => (i.zero, i.size, i.bytes)) = some (some (.int .u8 0), 1, 1) := by kernel_rfl

/-- The ASCII upper case of a byte. -/
def upi (c : Int) : Int := if 97 ≤ c ∧ c ≤ 122 then c - 32 else c

/-- What is written so far, and zeros behind it. -/
def part (zs : List Int) (k n : Nat) : List Value := (zs.take k).map (Value.int .u8) ++ List.replicate (n - k) (.int .u8 0)

theorem part_zero (zs : List Int) (n : Nat) : (madeCells #[Value.int .u8 0] n).toList = part zs 0 n := by
  rw [toList_madeCells_one]
  simp [part]

theorem part_set (zs : List Int) (k n : Nat) (hk : k < n) (hz : n ≤ zs.length) : (part zs k n).set k (.int .u8 (zs[k]?.getD 0)) = part zs (k + 1) n := by
  have hkz : k < zs.length := by omega
  apply List.ext_getElem?
  intro j
  unfold part
  simp only [List.getElem?_set, List.getElem?_append, List.length_append, List.length_map, List.length_take, List.length_replicate, List.getElem?_map, List.getElem?_take, List.getElem?_replicate]
  have e1 : min k zs.length = k := by omega
  have e2 : min (k + 1) zs.length = k + 1 := by omega
  rw [e1, e2]
  by_cases h : k = j
  · subst h
    simp [hkz]
    omega
  · by_cases h2 : j < k
    · have : j < k + 1 := by omega
      simp [h, h2, this]
    · have h3 : ¬ j < k + 1 := by omega
      simp only [h, h2, h3, if_false]
      by_cases h4 : j < n
      · rw [if_pos (by omega), if_pos (by omega)]
      · rw [if_neg (by omega), if_neg (by omega)]

theorem part_full (zs : List Int) (n : Nat) (h : zs.length = n) : part zs n n = zs.map (Value.int .u8) := by simp [part, ← h]

theorem map_at (f : Int → Int) (s : ByteArray) (k : Nat) (h : k < s.size) : ((bs s).map f)[k]?.getD 0 = f (s[k].toNat : Int) := by
  rw [List.getElem?_map, bs_at s k h]; rfl

theorem bs_nums (xs : List Int) (h : ∀ x ∈ xs, 0 ≤ x ∧ x ≤ 255) : bs (strOfNums xs) = xs := by
  unfold bs
  rw [strOfNums_data, List.map_map]
  conv => rhs; rw [← List.map_id xs]
  apply List.map_congr_left
  intro x hx
  have h1 := h x hx
  have h2 : (UInt8.ofNat x.toNat).toNat = x.toNat := by
    rw [UInt8.toNat_ofNat']; omega
  simp only [Function.comp, h2, id]
  omega

theorem map_range (f : Int → Int) (hf : ∀ c, 0 ≤ c → c ≤ 255 → 0 ≤ f c ∧ f c ≤ 255) (s : ByteArray) : ∀ x ∈ (bs s).map f, 0 ≤ x ∧ x ≤ 255 := by
  intro x hx
  obtain ⟨c, hc, rfl⟩ := List.mem_map.1 hx
  obtain ⟨b, _, rfl⟩ := List.mem_map.1 hc
  have hb := byte_bd b
  exact hf _ hb.1 hb.2

theorem upi_range (c : Int) (h0 : 0 ≤ c) (h1 : c ≤ 255) : 0 ≤ upi c ∧ upi c ≤ 255 := by unfold upi; split <;> omega
theorem lwi_range (c : Int) (h0 : 0 ≤ c) (h1 : c ≤ 255) : 0 ≤ lwi c ∧ lwi c ≤ 255 := by unfold lwi; split <;> omega

set_option maxHeartbeats 1000000 in
theorem upper_any (s : ByteArray) (w : World) (hs : s.size ≤ 262144) :
    Calls Try.prog 16 #[.string s] w fun e w' => (∃ t, e = .returned (.string t) ∧ Hid (bs t = (bs s).map upi)) ∧ Below w.heap.size w w' := by
  obtain ⟨i0, hi, hz0, hz1, hz2⟩ := info_parts info5
  go_enter Try.func16, Try.ntmps16
  go_wp2_with (at_make; refine wpList_make_full _ rfl _ _ 32 rfl w.heap.size 5 i0 (.int .u8 0) 1 Try.underlying32 hi hz0 hz1 _ _ _ _ s.size rfl rfl rfl rfl ?b2 ?b3 (Nat.le_refl _) ?_)
  case b2 => rw [hz2]; omega
  case b3 => unfold maxLen; omega
  intro w0 hown0 hgrow0
  rw [part_zero ((bs s).map upi) s.size] at hown0
  have hbel0 : Below w.heap.size w w0 := (Below.refl _ _).grown hgrow0 (Nat.le_refl _) (fun k h => by cases h)
  clear hgrow0
  have hlen : ((bs s).map upi).length = s.size := by rw [List.length_map, bs_len]
  have HLEN : Hid (((bs s).map upi).length = s.size) := hlen
  clear hlen
  go_wp2_with fail
  go_loopw [4] (fun i wr => ∃ k : Nat, k ≤ s.size ∧ i = .int .i64 k ∧ Hid (wr.ownsRow w.heap.size 5 1 (.slice (some ⟨w.heap.size, 0, none⟩) s.size s.size) s.size (part ((bs s).map upi) k s.size)) ∧ Below w.heap.size w wr) (fun i _ => s.size - (intOf i).toNat)
  case atStart => exact ⟨0, Nat.zero_le _, rfl, hown0, hbel0⟩
  case round =>
    obtain ⟨k, hk, rfl, HO, hbel⟩ := hrel
    clear hown0 hbel0
    by_cases hlt : k < s.size
    · have hown := HO.out
      have hfz := hown.frozenAt k
      have hst := hown.stored k (.int .u8 (upi (s[k].toNat : Int)))
      rw [← map_at upi s k hlt, part_set ((bs s).map upi) k s.size hlt (by rw [HLEN.out]; exact Nat.le_refl _), map_at upi s k hlt] at hst
      obtain ⟨v, hcc⟩ : ∃ v, wr.cell? ⟨w.heap.size, k, none⟩ = some v := by
        have h := hown.cellAt k (by omega)
        rw [h]
        have : k < (part ((bs s).map upi) k s.size).length := by rw [hown.1]; omega
        exact ⟨_, List.getElem?_eq_getElem this⟩
      have hbd := byte_bd s[k]
      have HST : Hid _ := hst.1
      have hlt' := hbel.size
      clear hown hst
      by_cases hu : 97 ≤ (s[k].toNat : Int) ∧ (s[k].toNat : Int) ≤ 122
      · have hf : upi (s[k].toNat : Int) = (s[k].toNat : Int) - 32 := if_pos hu
        have HST2 := HST.out
        rw [hf] at HST2
        have HS3 : Hid _ := HST2
        obtain ⟨hu1, hu2⟩ := hu
        clear HST2 hf HST
        go_wp2_with fail
        go_roundw
        case rel => exact ⟨k + 1, by omega, by go_num, HS3.out, hbel.setCell (p := ⟨w.heap.size, k, none⟩) (Nat.le_refl _) _⟩
        case measure => simp [intOf]; omega
      · have hf : upi (s[k].toNat : Int) = (s[k].toNat : Int) := if_neg hu
        have HST2 := HST.out
        rw [hf] at HST2
        have HS3 : Hid _ := HST2
        have hu' : (s[k].toNat : Int) < 97 ∨ (97 ≤ (s[k].toNat : Int) ∧ 122 < (s[k].toNat : Int)) := by omega
        clear HST2 hf HST hu
        rcases hu' with hu1 | ⟨hu1, hu2⟩
        all_goals
          go_wp2_with fail
          go_roundw
          case rel => exact ⟨k + 1, by omega, by go_num, HS3.out, hbel.setCell (p := ⟨w.heap.size, k, none⟩) (Nat.le_refl _) _⟩
          case measure => simp [intOf]; omega
    · have hkl : k = s.size := by omega
      have hown := HO.out
      rw [hkl, part_full _ _ HLEN.out] at hown
      have hcells : ∀ j, j < s.size → wr.cell? ⟨w.heap.size, 0 + j, none⟩ = some (.int .u8 (((bs s).map upi).getD j 0)) := fun j hj => by
        have hj' := hj; rw [← HLEN.out] at hj'
        rw [Nat.zero_add, hown.cellAt j (by omega)]
        simp only [List.getElem?_map, List.getD, List.getElem?_eq_getElem hj', Option.map_some, Option.getD_some]
      have HB : Hid (bs (strOfNums ((bs s).map upi)) = (bs s).map upi) := bs_nums _ (map_range upi upi_range s)
      have hcv := run_convert_bytes_arg (P := Try.prog) wr 32 5 Try.underlying32 Try.underlying5 w.heap.size 0 s.size s.size ((bs s).map upi) HLEN.out hcells 9 Try.underlying9
      obtain ⟨T, hT⟩ : ∃ T, T = strOfNums ((bs s).map upi) := ⟨_, rfl⟩
      rw [← hT] at HB hcv
      clear hT hcells hown HO hkl
      go_wp2_with fail
      go_ret
      exact ⟨⟨_, rfl, HB⟩, hbel⟩

set_option maxHeartbeats 1000000 in
theorem lower'_any (s : ByteArray) (w : World) (hs : s.size ≤ 262144) :
    Calls Try.prog 17 #[.string s] w fun e w' => (∃ t, e = .returned (.string t) ∧ Hid (bs t = (bs s).map lwi)) ∧ Below w.heap.size w w' := by
  obtain ⟨i0, hi, hz0, hz1, hz2⟩ := info_parts info5
  go_enter Try.func17, Try.ntmps17
  go_wp2_with (at_make; refine wpList_make_full _ rfl _ _ 32 rfl w.heap.size 5 i0 (.int .u8 0) 1 Try.underlying32 hi hz0 hz1 _ _ _ _ s.size rfl rfl rfl rfl ?b2 ?b3 (Nat.le_refl _) ?_)
  case b2 => rw [hz2]; omega
  case b3 => unfold maxLen; omega
  intro w0 hown0 hgrow0
  rw [part_zero ((bs s).map lwi) s.size] at hown0
  have hbel0 : Below w.heap.size w w0 := (Below.refl _ _).grown hgrow0 (Nat.le_refl _) (fun k h => by cases h)
  clear hgrow0
  have hlen : ((bs s).map lwi).length = s.size := by rw [List.length_map, bs_len]
  have HLEN : Hid (((bs s).map lwi).length = s.size) := hlen
  clear hlen
  go_wp2_with fail
  go_loopw [4] (fun i wr => ∃ k : Nat, k ≤ s.size ∧ i = .int .i64 k ∧ Hid (wr.ownsRow w.heap.size 5 1 (.slice (some ⟨w.heap.size, 0, none⟩) s.size s.size) s.size (part ((bs s).map lwi) k s.size)) ∧ Below w.heap.size w wr) (fun i _ => s.size - (intOf i).toNat)
  case atStart => exact ⟨0, Nat.zero_le _, rfl, hown0, hbel0⟩
  case round =>
    obtain ⟨k, hk, rfl, HO, hbel⟩ := hrel
    clear hown0 hbel0
    by_cases hlt : k < s.size
    · have hown := HO.out
      have hfz := hown.frozenAt k
      have hst := hown.stored k (.int .u8 (lwi (s[k].toNat : Int)))
      rw [← map_at lwi s k hlt, part_set ((bs s).map lwi) k s.size hlt (by rw [HLEN.out]; exact Nat.le_refl _), map_at lwi s k hlt] at hst
      obtain ⟨v, hcc⟩ : ∃ v, wr.cell? ⟨w.heap.size, k, none⟩ = some v := by
        have h := hown.cellAt k (by omega)
        rw [h]
        have : k < (part ((bs s).map lwi) k s.size).length := by rw [hown.1]; omega
        exact ⟨_, List.getElem?_eq_getElem this⟩
      have hbd := byte_bd s[k]
      have HST : Hid _ := hst.1
      have hlt' := hbel.size
      clear hown hst
      by_cases hu : 65 ≤ (s[k].toNat : Int) ∧ (s[k].toNat : Int) ≤ 90
      · have hf : lwi (s[k].toNat : Int) = (s[k].toNat : Int) + 32 := if_pos hu
        have HST2 := HST.out
        rw [hf] at HST2
        have HS3 : Hid _ := HST2
        obtain ⟨hu1, hu2⟩ := hu
        clear HST2 hf HST
        go_wp2_with fail
        go_roundw
        case rel => exact ⟨k + 1, by omega, by go_num, HS3.out, hbel.setCell (p := ⟨w.heap.size, k, none⟩) (Nat.le_refl _) _⟩
        case measure => simp [intOf]; omega
      · have hf : lwi (s[k].toNat : Int) = (s[k].toNat : Int) := if_neg hu
        have HST2 := HST.out
        rw [hf] at HST2
        have HS3 : Hid _ := HST2
        have hu' : (s[k].toNat : Int) < 65 ∨ (65 ≤ (s[k].toNat : Int) ∧ 90 < (s[k].toNat : Int)) := by omega
        clear HST2 hf HST hu
        rcases hu' with hu1 | ⟨hu1, hu2⟩
        all_goals
          go_wp2_with fail
          go_roundw
          case rel => exact ⟨k + 1, by omega, by go_num, HS3.out, hbel.setCell (p := ⟨w.heap.size, k, none⟩) (Nat.le_refl _) _⟩
          case measure => simp [intOf]; omega
    · have hkl : k = s.size := by omega
      have hown := HO.out
      rw [hkl, part_full _ _ HLEN.out] at hown
      have hcells : ∀ j, j < s.size → wr.cell? ⟨w.heap.size, 0 + j, none⟩ = some (.int .u8 (((bs s).map lwi).getD j 0)) := fun j hj => by
        have hj' := hj; rw [← HLEN.out] at hj'
        rw [Nat.zero_add, hown.cellAt j (by omega)]
        simp only [List.getElem?_map, List.getD, List.getElem?_eq_getElem hj', Option.map_some, Option.getD_some]
      have HB : Hid (bs (strOfNums ((bs s).map lwi)) = (bs s).map lwi) := bs_nums _ (map_range lwi lwi_range s)
      have hcv := run_convert_bytes_arg (P := Try.prog) wr 32 5 Try.underlying32 Try.underlying5 w.heap.size 0 s.size s.size ((bs s).map lwi) HLEN.out hcells 9 Try.underlying9
      obtain ⟨T, hT⟩ : ∃ T, T = strOfNums ((bs s).map lwi) := ⟨_, rfl⟩
      rw [← hT] at HB hcv
      clear hT hcells hown HO hkl
      go_wp2_with fail
      go_ret
      exact ⟨⟨_, rfl, HB⟩, hbel⟩

end Go.Proofs.Qxb6601968a.Adn
