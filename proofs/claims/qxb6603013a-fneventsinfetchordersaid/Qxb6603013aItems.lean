/-
  The items of an object, as plain data; uvarint (function 27): its contract.
-/
import Derived.Test.Qxb6603013aRows
import Derived.WalkKit
import Derived.WalkSpells
import Derived.WalkLawsBesides
namespace Go.Proofs.Qxb6603013a.Items
open Go.RowKit

/-- Byte i of a string; nought behind its end. -/
def bt (s : ByteArray) (i : Nat) : Nat := (s.data.toList[i]?.getD 0).toNat

theorem bt_of (s : ByteArray) (i : Nat) (h : i < s.size) : s[i].toNat = bt s i := by
  have h' : i < s.data.toList.length := by simpa using h
  simp only [bt, List.getElem?_eq_getElem h', Option.getD_some]
  rfl

theorem bt_lt (s : ByteArray) (i : Nat) : bt s i < 256 := by
  unfold bt
  exact UInt8.toNat_lt _

theorem bt_extract (s : ByteArray) (i k : Nat) (h : i + k < s.size) : bt (s.extract i s.size) k = bt s (i + k) := by
  have h1 : k < (s.extract i s.size).size := by simp; omega
  rw [← bt_of _ _ h1, ← bt_of _ _ h]
  simp [ByteArray.getElem_extract]

theorem extract_twice (s : ByteArray) (i j : Nat) : (s.extract i s.size).extract j (s.extract i s.size).size = s.extract (i + j) s.size := by
  simp only [ByteArray.extract_extract, ByteArray.size_extract]
  by_cases h : i ≤ s.size
  · congr 1; omega
  · have e1 : s.extract (i + j) (min (i + (min s.size s.size - i)) s.size) = s.extract (i + j) s.size := by
      congr 1; omega
    exact e1

/-- The value of the first k groups of seven bits. -/
def vv (t : ByteArray) : Nat → Nat
  | 0 => 0
  | k + 1 => vv t k + (bt t k % 128) * 2 ^ (7 * k)

/-- A uvarint of m + 1 bytes stands at the start of t; at most four bytes. -/
structure Cont (t : ByteArray) (m : Nat) : Prop where
  more : ∀ j, j < m → 128 ≤ bt t j
  last : bt t m < 128
  within : m < t.size
  four : m ≤ 3

theorem vv_lt (t : ByteArray) (k : Nat) : vv t k < 2 ^ (7 * k) := by
  induction k with
  | zero => simp [vv]
  | succ k ih =>
    have h1 : bt t k % 128 < 128 := Nat.mod_lt _ (by decide)
    have h2 : 2 ^ (7 * (k + 1)) = 128 * 2 ^ (7 * k) := by rw [show 7 * (k + 1) = 7 * k + 7 by omega, Nat.pow_add]; omega
    rw [h2, vv]
    have h3 : (bt t k % 128 + 1) * 2 ^ (7 * k) ≤ 128 * 2 ^ (7 * k) := Nat.mul_le_mul_right _ (by omega)
    rw [Nat.add_mul, Nat.one_mul] at h3
    omega

theorem or_comm64 (x y : Int) : bits .or .i64 x y = bits .or .i64 y x := by
  unfold bits
  simp only [BitVec.or_comm]

theorem wraps64 (n : Int) (h₀ : 0 ≤ n) (h₁ : n < 2 ^ 63) : IntKind.i64.wrap n = n := by rw [IntKind.wrap_i64]; omega

theorem or_low (i : Nat) (x y : Int) (hx₀ : 0 ≤ x) (hx : x < 2 ^ i) (hx₁ : x < 2 ^ 63) (hy₀ : 0 ≤ y) (hy : y % 2 ^ i = 0) (hy₁ : y < 2 ^ 63) : bits .or .i64 x y = x + y := by
  rw [or_comm64, bits_join .i64 63 (by decide) wraps64 i y x hy₀ hy hy₁ hx₀ hx hx₁, Int.add_comm]

theorem vv0 (t : ByteArray) : bits .or .i64 (vv t 0 : Nat) ((bt t 0 : Int) % 128) = (vv t 1 : Nat) := by
  have h := vv_lt t 0
  rw [or_low 0 _ _ (by omega) (by omega) (by omega) (by omega) (by omega) (by omega)]
  simp [vv]

theorem vv1 (t : ByteArray) : bits .or .i64 (vv t 1 : Nat) ((bt t 1 : Int) % 128 * 128) = (vv t 2 : Nat) := by
  have h := vv_lt t 1
  rw [or_low 7 _ _ (by omega) (by omega) (by omega) (by omega) (by omega) (by omega)]
  simp only [vv]; omega

theorem vv2 (t : ByteArray) : bits .or .i64 (vv t 2 : Nat) ((bt t 2 : Int) % 128 * 16384) = (vv t 3 : Nat) := by
  have h := vv_lt t 2
  rw [or_low 14 _ _ (by omega) (by omega) (by omega) (by omega) (by omega) (by omega)]
  simp only [vv]; omega

theorem vv3 (t : ByteArray) : bits .or .i64 (vv t 3 : Nat) ((bt t 3 : Int) % 128 * 2097152) = (vv t 4 : Nat) := by
  have h := vv_lt t 3
  rw [or_low 21 _ _ (by omega) (by omega) (by omega) (by omega) (by omega) (by omega)]
  simp only [vv]; omega

theorem ret_ints {a b c d : Int} (h : a = c) (h' : b = d) : Ending.returned (.tuple #[.int .i64 a, .int .i64 b]) = .returned (.tuple #[.int .i64 c, .int .i64 d]) := by rw [h, h']

set_option maxHeartbeats 400000 in
set_option maxRecDepth 100000 in
theorem uvarint_any (t : ByteArray) (m : Nat) (w : World) (h : Cont t m) (hs : t.size ≤ 9223372036854775807) :
    Calls Try.prog 27 #[.string t] w fun e w' => e = .returned (.tuple #[.int .i64 (vv t (m + 1) : Nat), .int .i64 ((m + 1 : Nat) : Int)]) ∧ w' = w := by
  obtain ⟨hmore, hlast, hin, hfour⟩ := h
  go_enter Try.func27, Try.ntmps27
  go_wp2
  go_loop [2, 3, 4] (fun n sz sh => ∃ k : Nat, k ≤ m ∧ sz = .int .i64 k ∧ sh = .int .i64 ((7 * k : Nat) : Int) ∧ n = .int .i64 (vv t k : Nat)) (fun _ sz _ => 4 - (intOf sz).toNat)
  case atStart => exact ⟨0, by omega, rfl, rfl, rfl⟩
  case round =>
    obtain ⟨k, hk, rfl, rfl, rfl⟩ := hrel
    have hkt : k < t.size := by omega
    have hb : t[k].toNat = bt t k := bt_of t k hkt
    have hlt := bt_lt t k
    have hmask : bits .and .u8 (bt t k : Int) 127 = (bt t k : Int) % 128 := bits_mask .u8 8 (by decide) wraps_u8 7 (by decide) _ (by omega) (by omega)
    have hv := vv_lt t k
    have hk' : k = 0 ∨ k = 1 ∨ k = 2 ∨ k = 3 := by omega
    rcases hk' with rfl | rfl | rfl | rfl
    · have hO := vv0 t
      have HO : Hid _ := hO
      clear hO
      go_wp2
      · have hm : m = 0 := by
          rcases Nat.lt_or_ge 0 m with h | h
          · have := hmore 0 h; omega
          · omega
        subst hm
        go_ret2
        exact ⟨ret_ints HO.out (by omega), rfl⟩
      · have hm : 0 < m := by
          rcases Nat.lt_or_ge 0 m with h | h
          · exact h
          · have : m = 0 := by omega
            subst this; omega
        go_round
        case rel => exact ⟨1, by omega, rfl, rfl, by rw [HO.out]⟩
        case measure => simp [intOf]
    · have hO := vv1 t
      have HO : Hid _ := hO
      clear hO
      go_wp2
      · have hm : m = 1 := by
          rcases Nat.lt_or_ge 1 m with h | h
          · have := hmore 1 h; omega
          · omega
        subst hm
        go_ret2
        exact ⟨ret_ints HO.out (by omega), rfl⟩
      · have hm : 1 < m := by
          rcases Nat.lt_or_ge 1 m with h | h
          · exact h
          · have : m = 1 := by omega
            subst this; omega
        go_round
        case rel => exact ⟨2, by omega, rfl, rfl, by rw [HO.out]⟩
        case measure => simp [intOf]
    · have hO := vv2 t
      have HO : Hid _ := hO
      clear hO
      go_wp2
      · have hm : m = 2 := by
          rcases Nat.lt_or_ge 2 m with h | h
          · have := hmore 2 h; omega
          · omega
        subst hm
        go_ret2
        exact ⟨ret_ints HO.out (by omega), rfl⟩
      · have hm : 2 < m := by
          rcases Nat.lt_or_ge 2 m with h | h
          · exact h
          · have : m = 2 := by omega
            subst this; omega
        go_round
        case rel => exact ⟨3, by omega, rfl, rfl, by rw [HO.out]⟩
        case measure => simp [intOf]
    · have hO := vv3 t
      have HO : Hid _ := hO
      clear hO
      go_wp2
      · have hm : m = 3 := by
          rcases Nat.lt_or_ge 3 m with h | h
          · have := hmore 3 h; omega
          · omega
        subst hm
        go_ret2
        exact ⟨ret_ints HO.out (by omega), rfl⟩
      · have hm : 3 < m := by
          rcases Nat.lt_or_ge 3 m with h | h
          · exact h
          · have : m = 3 := by omega
            subst this; omega
        go_round
        case rel => exact ⟨4, by omega, rfl, rfl, by rw [HO.out]⟩
        case measure => simp [intOf]
end Go.Proofs.Qxb6603013a.Items
