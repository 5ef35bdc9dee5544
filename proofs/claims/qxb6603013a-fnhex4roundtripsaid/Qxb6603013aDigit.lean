/-
  hexDigitValue (function 11): its contract.
-/
import Derived.Test.Qxb6603013aHex
namespace Go.Proofs.Qxb6603013a.Hex
open Go.RowKit

def notYet (c : Int) (k : Nat) : Prop := ∀ d, dig c = some d → (k : Int) ≤ d

theorem notYet_end (c : Int) (h : notYet c 16) : dig c = none := by
  cases e : dig c with
  | none => rfl
  | some d => have h1 := h d e; have h2 := dig_bd c d e; omega

theorem notYet_step (c : Int) (k : Nat) (h : notYet c k) (hn : dig c ≠ some (k : Int)) : notYet c (k + 1) := by
  intro d hd
  have h1 := h d hd
  have h2 : d ≠ (k : Int) := fun e => hn (by rw [hd, e])
  omega

theorem lo_at (k : Nat) (h : k < (ByteArray.mk #[48, 49, 50, 51, 52, 53, 54, 55, 56, 57, 97, 98, 99, 100, 101, 102]).size) :
    (((ByteArray.mk #[48, 49, 50, 51, 52, 53, 54, 55, 56, 57, 97, 98, 99, 100, 101, 102])[k]'h).toNat : Int) = if k < 10 then (48 : Int) + k else 87 + k := by
  have h' : k < 16 := h
  have hk16 : k = 0 ∨ k = 1 ∨ k = 2 ∨ k = 3 ∨ k = 4 ∨ k = 5 ∨ k = 6 ∨ k = 7 ∨ k = 8 ∨ k = 9 ∨ k = 10 ∨ k = 11 ∨ k = 12 ∨ k = 13 ∨ k = 14 ∨ k = 15 := by omega
  rcases hk16 with rfl | rfl | rfl | rfl | rfl | rfl | rfl | rfl | rfl | rfl | rfl | rfl | rfl | rfl | rfl | rfl <;> rfl

theorem up_at (k : Nat) (h : k < (ByteArray.mk #[48, 49, 50, 51, 52, 53, 54, 55, 56, 57, 65, 66, 67, 68, 69, 70]).size) :
    (((ByteArray.mk #[48, 49, 50, 51, 52, 53, 54, 55, 56, 57, 65, 66, 67, 68, 69, 70])[k]'h).toNat : Int) = if k < 10 then (48 : Int) + k else 55 + k := by
  have h' : k < 16 := h
  have hk16 : k = 0 ∨ k = 1 ∨ k = 2 ∨ k = 3 ∨ k = 4 ∨ k = 5 ∨ k = 6 ∨ k = 7 ∨ k = 8 ∨ k = 9 ∨ k = 10 ∨ k = 11 ∨ k = 12 ∨ k = 13 ∨ k = 14 ∨ k = 15 := by omega
  rcases hk16 with rfl | rfl | rfl | rfl | rfl | rfl | rfl | rfl | rfl | rfl | rfl | rfl | rfl | rfl | rfl | rfl <;> rfl

theorem dig_lo (k : Nat) (h : k < 16) : dig (if k < 10 then (48 : Int) + k else 87 + k) = some (k : Int) := by
  unfold dig
  split
  · rw [if_pos (by omega)]; congr 1; omega
  · rw [if_neg (by omega), if_pos (by omega)]; congr 1; omega

theorem dig_up (k : Nat) (h : k < 16) : dig (if k < 10 then (48 : Int) + k else 55 + k) = some (k : Int) := by
  unfold dig
  split
  · rw [if_pos (by omega)]; congr 1; omega
  · rw [if_neg (by omega), if_neg (by omega), if_pos (by omega)]; congr 1; omega

theorem dig_back (c : Int) (k : Nat) (h : dig c = some (k : Int)) : c = (if k < 10 then (48 : Int) + k else 87 + k) ∨ c = (if k < 10 then (48 : Int) + k else 55 + k) := by
  unfold dig at h
  split at h
  · simp at h; left; rw [if_pos (by omega)]; omega
  · split at h
    · simp at h; left; rw [if_neg (by omega)]; omega
    · split at h
      · simp at h; right; rw [if_neg (by omega)]; omega
      · simp at h

theorem hit1 (k : Nat) (h : k < (ByteArray.mk #[48, 49, 50, 51, 52, 53, 54, 55, 56, 57, 97, 98, 99, 100, 101, 102]).size) :
    (k : Int) = (dig (((ByteArray.mk #[48, 49, 50, 51, 52, 53, 54, 55, 56, 57, 97, 98, 99, 100, 101, 102])[k]'h).toNat : Int)).getD (-1) := by
  rw [lo_at k h, dig_lo k h]; rfl

theorem hit2 (c : Int) (k : Nat) (h : k < (ByteArray.mk #[48, 49, 50, 51, 52, 53, 54, 55, 56, 57, 97, 98, 99, 100, 101, 102]).size) (h' : k < (ByteArray.mk #[48, 49, 50, 51, 52, 53, 54, 55, 56, 57, 65, 66, 67, 68, 69, 70]).size)
    (h2 : (c == (((ByteArray.mk #[48, 49, 50, 51, 52, 53, 54, 55, 56, 57, 97, 98, 99, 100, 101, 102])[k]'h).toNat : Int)) = true ∨ (c == (((ByteArray.mk #[48, 49, 50, 51, 52, 53, 54, 55, 56, 57, 65, 66, 67, 68, 69, 70])[k]'h').toNat : Int)) = true) :
    (k : Int) = (dig c).getD (-1) := by
  rcases h2 with h2 | h2
  · rw [WalkArith.int_eq h2]; exact hit1 k h
  · rw [WalkArith.int_eq h2, up_at k h', dig_up k h]; rfl

theorem miss (c : Int) (k : Nat) (h : k < (ByteArray.mk #[48, 49, 50, 51, 52, 53, 54, 55, 56, 57, 97, 98, 99, 100, 101, 102]).size) (h' : k < (ByteArray.mk #[48, 49, 50, 51, 52, 53, 54, 55, 56, 57, 65, 66, 67, 68, 69, 70]).size)
    (h2 : (c == (((ByteArray.mk #[48, 49, 50, 51, 52, 53, 54, 55, 56, 57, 97, 98, 99, 100, 101, 102])[k]'h).toNat : Int)) = false ∧ (c == (((ByteArray.mk #[48, 49, 50, 51, 52, 53, 54, 55, 56, 57, 65, 66, 67, 68, 69, 70])[k]'h').toNat : Int)) = false) :
    dig c ≠ some (k : Int) := by
  intro e
  rw [lo_at k h, up_at k h'] at h2
  have h3 := WalkArith.int_ne h2.1
  have h4 := WalkArith.int_ne h2.2
  rcases dig_back c k e with h5 | h5
  · exact h3 h5
  · exact h4 h5

set_option maxHeartbeats 400000 in
theorem digit_any (c : Int) (w : World) :
    Calls Try.prog 11 #[.int .u8 c] w fun e w' => e = .returned (.int .i64 ((dig c).getD (-1))) ∧ w' = w := by
  go_enter Try.func11, Try.ntmps11
  go_wp2
  go_loop [3] (fun i => ∃ k : Nat, k ≤ 16 ∧ i = .int .i64 k ∧ notYet c k) (fun i => 16 - (intOf i).toNat)
  case atStart => exact ⟨0, by omega, rfl, fun d hd => (dig_bd c d hd).1⟩
  case round =>
    obtain ⟨k, hk, rfl, hd⟩ := hrel
    have HD : Hid (notYet c k) := hd
    clear hd
    by_cases h16 : k < 16
    · go_wp2
      · go_ret
        exact ⟨ret_int (hit1 k h16), rfl⟩
      · have h2 := hit2 c k h16 h16 (by assumption)
        go_ret
        exact ⟨ret_int h2, rfl⟩
      · have h2 := miss c k h16 h16 (by assumption)
        go_round
        case rel => exact ⟨k + 1, by omega, by go_num, notYet_step c k HD.out h2⟩
        case measure => simp [intOf]; omega
    · have : k = 16 := by omega
      subst this
      go_wp2
      go_ret
      exact ⟨ret_int (by rw [notYet_end c HD.out]; rfl), rfl⟩
end Go.Proofs.Qxb6603013a.Hex
