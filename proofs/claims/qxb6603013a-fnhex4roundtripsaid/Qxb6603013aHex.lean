/-
  hex4 and ZZHex4 (functions 22 and 10): their contracts, over a plain function.
-/
import Derived.Test.Qxb6603013aRows
import Derived.WalkKit
import Derived.WalkSpells
import Derived.WalkLawsBesides
namespace Go.Proofs.Qxb6603013a.Hex
open Go.RowKit

/-- The value of one hexadecimal digit. -/
def dig (c : Int) : Option Int :=
  if 48 ≤ c ∧ c ≤ 57 then some (c - 48) else if 97 ≤ c ∧ c ≤ 102 then some (c - 87) else if 65 ≤ c ∧ c ≤ 70 then some (c - 55) else none

/-- What the loop of hex4 computes. -/
def hexv : List Int → Int → Int
  | [], r => r
  | c :: cs, r => match dig c with
    | none => -1
    | some d => hexv cs (r * 16 + d)

theorem or4 (x y : Int) (hx₀ : 0 ≤ x) (hx₁ : x < 4096) (h₀ : 0 ≤ y) (h₁ : y < 16) : bits .or .i32 (x * 16) y = x * 16 + y :=
  bits_join .i32 31 (by decide) wraps_i32 4 (x * 16) y (by omega) (by omega) (by omega) h₀ (by omega) (by omega)

theorem ret_int {k : IntKind} {a b : Int} (h : a = b) : Ending.returned (.int k a) = .returned (.int k b) := by rw [h]

theorem dig_bd (c d : Int) (h : dig c = some d) : 0 ≤ d ∧ d < 16 := by
  unfold dig at h
  split at h
  · simp at h; omega
  · split at h
    · simp at h; omega
    · split at h
      · simp at h; omega
      · simp at h

theorem hexv_step (zs : List Int) (k : Nat) (R d : Int) (hl : 4 ≤ zs.length) (hk : k < 4) (hd : dig (zs[k]?.getD 0) = some d) :
    hexv ((zs.take 4).drop k) R = hexv ((zs.take 4).drop (k + 1)) (R * 16 + d) := by
  have h1 : k < (zs.take 4).length := by simp; omega
  rw [List.drop_eq_getElem_cons h1]
  have h2 : k < zs.length := by omega
  have e : (zs.take 4)[k] = zs[k]?.getD 0 := by simp [h2]
  rw [e]
  simp [hexv, hd]

theorem hexv_stop (zs : List Int) (k : Nat) (R : Int) (hl : 4 ≤ zs.length) (hk : k < 4) (hd : dig (zs[k]?.getD 0) = none) :
    hexv ((zs.take 4).drop k) R = -1 := by
  have h1 : k < (zs.take 4).length := by simp; omega
  rw [List.drop_eq_getElem_cons h1]
  have h2 : k < zs.length := by omega
  have e : (zs.take 4)[k] = zs[k]?.getD 0 := by simp [h2]
  rw [e]
  simp [hexv, hd]

theorem pow_bd (k : Nat) (R d : Int) (h : R < 16 ^ k) (_hd : 0 ≤ d) (hd' : d < 16) : R * 16 + d < 16 ^ (k + 1) := by
  rw [Int.pow_succ]; omega

theorem pow_bd3 (k : Nat) (R : Int) (hk : k < 4) (h : R < 16 ^ k) : R < 4096 := by
  match k, hk with
  | 0, _ => simp at h; omega
  | 1, _ => simp at h; omega
  | 2, _ => simp at h; omega
  | 3, _ => simp at h; omega

/-- One round: what the loop's relation becomes. -/
theorem round_rel (zs : List Int) (k : Nat) (R d : Int) (hl : 4 ≤ zs.length) (hk : k < 4) (h0 : 0 ≤ R) (h1 : R < 16 ^ k) (hd : dig (zs[k]?.getD 0) = some d)
    (HD : hexv (zs.take 4) 0 = hexv ((zs.take 4).drop k) R) :
    ∃ (k' : Nat) (R' : Int), k' ≤ 4 ∧ Value.int .i64 ((k : Int) + 1) = .int .i64 k' ∧ Value.int .i32 (bits .or .i32 (R * 16) d) = .int .i32 R' ∧ 0 ≤ R' ∧ R' < 16 ^ k' ∧ hexv (zs.take 4) 0 = hexv ((zs.take 4).drop k') R' := by
  have hb := dig_bd _ _ hd
  have h3 := pow_bd3 k R hk h1
  refine ⟨k + 1, R * 16 + d, by omega, by go_num, ?_, by omega, pow_bd k R d h1 hb.1 hb.2, ?_⟩
  · rw [or4 R d h0 h3 hb.1 hb.2]
  · rw [HD, hexv_step zs k R d hl hk hd]

theorem short (a : Option Addr) (len cap : Nat) (w : World) (h : len < 4) :
    Calls Try.prog 22 #[.slice a len cap] w fun e w' => e = .returned (.int .i32 (-1)) ∧ w' = w := by
  go_enter Try.func22, Try.ntmps22
  go_wp2
  go_ret
  exact ⟨rfl, rfl⟩

set_option maxHeartbeats 400000 in
theorem long (b off len cap : Nat) (zs : List Int) (w : World) (h4 : 4 ≤ len) (hlc : len ≤ cap) (hm : cap ≤ 9223372036854775807) 
    (hc : ∀ j, j < 4 → w.cell? ⟨b, off + j, none⟩ = some (.int .u8 (zs.getD j 0)))
    (hr : ∀ j : Nat, 0 ≤ zs[j]?.getD 0 ∧ zs[j]?.getD 0 ≤ 255) (hl : 4 ≤ zs.length) :
    Calls Try.prog 22 #[.slice (some ⟨b, off, none⟩) len cap] w fun e w' => e = .returned (.int .i32 (hexv (zs.take 4) 0)) ∧ w' = w := by
  go_enter Try.func22, Try.ntmps22
  go_wp2
  go_loop [3, 12] (fun r i => ∃ (k : Nat) (R : Int), k ≤ 4 ∧ i = .int .i64 k ∧ r = .int .i32 R ∧ 0 ≤ R ∧ R < 16 ^ k ∧ hexv (zs.take 4) 0 = hexv ((zs.take 4).drop k) R) (fun _ i => 4 - (intOf i).toNat)
  case atStart => exact ⟨0, 0, by omega, rfl, rfl, by omega, by decide, rfl⟩
  case round =>
    obtain ⟨k, R, hk, rfl, rfl, hR0, hR1, hd⟩ := hrel
    have hcell : k < 4 → w.cell? ⟨b, off + k, none⟩ = some (.int .u8 (zs.getD k 0)) := fun h => hc k (by omega)
    have hrk := hr k
    have HD : Hid (hexv (zs.take 4) 0 = hexv ((zs.take 4).drop k) R) := hd
    clear hd hc hr
    by_cases hk4 : k < 4
    · have hR3 := pow_bd3 k R hk4 hR1
      have hcell' := hcell hk4
      have H1 : Hid (R < 16 ^ k) := hR1
      clear hcell hR1
      go_wp2
      all_goals first
        | (go_round
           case rel => exact round_rel zs k R _ hl hk4 hR0 H1.out (by unfold dig; first | rw [if_pos (by omega)] | rw [if_neg (by omega), if_pos (by omega)] | rw [if_neg (by omega), if_neg (by omega), if_pos (by omega)]) HD.out
           case measure => simp [intOf]; omega)
        | (go_ret
           exact ⟨ret_int (by rw [HD.out, hexv_stop zs k R hl hk4 (by unfold dig; rw [if_neg (by omega), if_neg (by omega), if_neg (by omega)])]), rfl⟩)
    · have hk5 : k = 4 := by omega
      subst hk5
      clear hcell
      go_wp2
      go_ret
      exact ⟨ret_int (by rw [HD.out, List.drop_of_length_le (by simp; omega)]; rfl), rfl⟩

/-- ZZHex4 hands its argument on. -/
theorem zz_short (a : Option Addr) (len cap : Nat) (w : World) (h : len < 4) :
    Calls Try.prog 10 #[.slice a len cap] w fun e w' => e = .returned (.int .i32 (-1)) ∧ w' = w := by
  go_enter Try.func10, Try.ntmps10
  go_wp2_with (go_at_call 22; refine (short _ _ _ _ h).mono ?_; rintro e w' ⟨rfl, rfl⟩)
  go_ret
  exact ⟨rfl, rfl⟩

theorem zz_long (b off len cap : Nat) (zs : List Int) (w : World) (h4 : 4 ≤ len) (hlc : len ≤ cap) (hm : cap ≤ 9223372036854775807) 
    (hc : ∀ j, j < 4 → w.cell? ⟨b, off + j, none⟩ = some (.int .u8 (zs.getD j 0)))
    (hr : ∀ j : Nat, 0 ≤ zs[j]?.getD 0 ∧ zs[j]?.getD 0 ≤ 255) (hl : 4 ≤ zs.length) :
    Calls Try.prog 10 #[.slice (some ⟨b, off, none⟩) len cap] w fun e w' => e = .returned (.int .i32 (hexv (zs.take 4) 0)) ∧ w' = w := by
  go_enter Try.func10, Try.ntmps10
  go_wp2_with (go_at_call 22; refine (long b off len cap zs _ h4 hlc hm hc hr hl).mono ?_; rintro e w' ⟨rfl, rfl⟩)
  go_ret
  exact ⟨rfl, rfl⟩
end Go.Proofs.Qxb6603013a.Hex
