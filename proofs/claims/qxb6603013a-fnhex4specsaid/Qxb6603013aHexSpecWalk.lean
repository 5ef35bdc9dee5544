/-
  FnHex4Spec (function 3): the walk from four bytes on.
-/
import Derived.Test.Qxb6603013aDigit
import Derived.Test.Qxb6603013aClone
namespace Go.Proofs.Qxb6603013a.fnHex4Spec
open Go.RowKit
open Go.Proofs.Qxb6603013a.Hex (hexv dig)
open Go.Proofs.Qxb6603013a.Clone

def wt : Nat → Int | 0 => 4096 | 1 => 256 | 2 => 16 | 3 => 1 | _ => 0
def sc : Nat → Int | 0 => 65536 | 1 => 4096 | 2 => 256 | 3 => 16 | _ => 1

theorem ret_bool {a b : Bool} (h : a = b) : Ending.returned (.bool a) = .returned (.bool b) := by rw [h]

theorem wt_bd (k : Nat) : 0 ≤ wt k ∧ wt k ≤ 4096 := by
  unfold wt; split <;> omega
theorem sc_bd (k : Nat) : 1 ≤ sc k ∧ sc k ≤ 65536 := by
  unfold sc; split <;> omega

/-- One round of the law's own loop. -/
theorem spec_round (zs : List Int) (k : Nat) (R d : Int) (hl : 4 ≤ zs.length) (hk : k < 4) (h0 : 0 ≤ R) (h1 : R < 16 ^ k) (hd : dig (zs[k]?.getD 0) = some d)
    (HD : hexv (zs.take 4) 0 = hexv ((zs.take 4).drop k) R) :
    ∃ (k' : Nat) (R' : Int), k' ≤ 4 ∧ Value.int .i64 ((k : Int) + 1) = .int .i64 k' ∧ Value.int .i64 (wt k / 16) = .int .i64 (wt k') ∧ Value.int .i64 (wrap64 (R * sc k + wrap64 (d * wt k))) = .int .i64 (R' * sc k') ∧ 0 ≤ R' ∧ R' < 16 ^ k' ∧ hexv (zs.take 4) 0 = hexv ((zs.take 4).drop k') R' := by
  have hb := Hex.dig_bd _ _ hd
  refine ⟨k + 1, R * 16 + d, by omega, by go_num, ?_, ?_, by omega, Hex.pow_bd k R d h1 hb.1 hb.2, by rw [HD, Hex.hexv_step zs k R d hl hk hd]⟩
  · match k, hk with
    | 0, _ => rfl
    | 1, _ => rfl
    | 2, _ => rfl
    | 3, _ => rfl
  · have hR3 := Hex.pow_bd3 k R hk h1
    have e : wrap64 (R * sc k + wrap64 (d * wt k)) = (R * 16 + d) * sc (k + 1) := by
      match k, hk with
      | 0, _ => simp only [sc, wt, wrap64]; omega
      | 1, _ => simp only [sc, wt, wrap64]; omega
      | 2, _ => simp only [sc, wt, wrap64]; omega
      | 3, _ => simp only [sc, wt, wrap64]; omega
    rw [e]

set_option maxHeartbeats 1000000 in
theorem walk_long (b off len cap : Nat) (zs : List Int) (w : World) (hl : len ≤ 1048576) (h4 : 4 ≤ len) (hz : len ≤ zs.length) (hb : b < w.heap.size)
    (hc : ∀ j, j < len → w.cell? ⟨b, off + j, none⟩ = some (.int .u8 (zs.getD j 0))) (hr : ∀ j : Nat, 0 ≤ zs[j]?.getD 0 ∧ zs[j]?.getD 0 ≤ 255) :
    Calls Try.prog 3 #[.slice (some ⟨b, off, none⟩) len cap] w fun e w' => e = .returned (.bool true) ∧ Below w.heap.size w w' := by
  go_enter Try.func3, Try.ntmps3
  go_wp2_with (first | (go_at_call 8; go_in) | (go_at_call 9; refine (clone_some b off len cap zs _ hl hz hb hc).mono ?_; rintro e w1 ⟨rfl, hown, hbel⟩))
  have hcell : ∀ j, j < len → w1.cell? ⟨w.heap.size, 0 + j, none⟩ = some (.int .u8 (zs.getD j 0)) := fun j hj => by
    have h1 := hown.cellAt j (by omega)
    have h2 : j < zs.length := by omega
    rw [Nat.zero_add, h1]
    simp [hj, h2]
  clear hown
  obtain ⟨G, hG⟩ : ∃ G, G = hexv (zs.take 4) 0 := ⟨_, rfl⟩
  have HC := Hex.zz_long w.heap.size 0 len len zs w1 h4 (Nat.le_refl _) (by omega) (fun j hj => hcell j (by omega)) hr (by omega)
  rw [← hG] at HC
  refine HC.mono ?_
  rintro e w2 ⟨rfl, rfl⟩
  have HG : Hid (G = hexv (zs.take 4) 0) := hG
  clear HC hG
  go_wp2_with fail
  go_loop [4, 5, 6] (fun wa we i => ∃ (k : Nat) (R : Int), k ≤ 4 ∧ i = .int .i64 k ∧ we = .int .i64 (wt k) ∧ wa = .int .i64 (R * sc k) ∧ 0 ≤ R ∧ R < 16 ^ k ∧ hexv (zs.take 4) 0 = hexv ((zs.take 4).drop k) R) (fun _ _ i => 4 - (intOf i).toNat)
  case atStart => exact ⟨0, 0, by omega, rfl, rfl, rfl, by omega, by decide, rfl⟩
  case round =>
    obtain ⟨k, R, hk, rfl, rfl, rfl, hR0, hR1, hd⟩ := hrel
    have HD : Hid (hexv (zs.take 4) 0 = hexv ((zs.take 4).drop k) R) := hd
    clear hd
    by_cases hk4 : k < 4
    · have hcell' : w2.cell? ⟨w.heap.size, k, none⟩ = some (.int .u8 (zs.getD k 0)) := by
        have h := hcell k (by omega)
        rwa [Nat.zero_add] at h
      have hR3 := Hex.pow_bd3 k R hk4 hR1
      have H1 : Hid (R < 16 ^ k) := hR1
      have hrk := hr k
      have hzl : 4 ≤ zs.length := by omega
      have hw := wt_bd k
      have hs := sc_bd k
      clear hcell hr hc hk hR1
      rcases hdd : dig (zs[k]?.getD 0) with _ | d
      · have hG1 : (G == -1) = true := by rw [HG.out, HD.out, Hex.hexv_stop zs k R hzl hk4 hdd]; rfl
        go_wp2_with (go_at_call 11; refine (Hex.digit_any _ _).mono ?_; rintro e w2 ⟨rfl, rfl⟩)
        go_ret
        exact ⟨rfl, hbel⟩
      · have hdb := Hex.dig_bd _ _ hdd
        have HS : Hid _ := spec_round zs k R d hzl hk4 hR0 H1.out hdd HD.out
        go_wp2_with (go_at_call 11; refine (Hex.digit_any _ _).mono ?_; rintro e w2 ⟨rfl, rfl⟩)
        go_round
        case rel => exact HS.out
        case measure => simp [intOf]; omega
    · have hk5 : k = 4 := by omega
      subst hk5
      have hG2 : G = R := by rw [HG.out, HD.out, List.drop_of_length_le (by simp; omega)]; rfl
      have hR4 : R < 65536 := by simpa using hR1
      have hs4 : sc 4 = 1 := rfl
      subst hG2
      clear hcell hr hc hR1
      go_wp2
      go_ret
      exact ⟨rfl, hbel⟩

/-- Too long: the law says nothing. -/
theorem walk_huge (a : Option Addr) (len cap : Nat) (w : World) (hl : 1048576 < len) :
    Calls Try.prog 3 #[.slice a len cap] w fun e w' => e = .returned (.bool true) ∧ Below w.heap.size w w' := by
  go_enter Try.func3, Try.ntmps3
  go_wp2
  go_ret
  exact ⟨rfl, Below.refl _ _⟩

theorem walk_nil (w : World) : Calls Try.prog 3 #[.slice none 0 0] w fun e w' => e = .returned (.bool true) ∧ Below w.heap.size w w' := by
  go_enter Try.func3, Try.ntmps3
  go_wp2_with (first | (go_at_call 8; go_in) | (go_at_call 9; refine (clone_nil _).mono ?_; rintro e w1 ⟨rfl, rfl⟩) | (go_at_call 10; refine (Hex.zz_short _ _ _ _ (by omega)).mono ?_; rintro e w2 ⟨rfl, rfl⟩))
  go_ret
  exact ⟨rfl, Below.refl _ _⟩

theorem walk_empty (x : Addr) (cap : Nat) (w : World) : Calls Try.prog 3 #[.slice (some x) 0 cap] w fun e w' => e = .returned (.bool true) ∧ Below w.heap.size w w' := by
  go_enter Try.func3, Try.ntmps3
  go_wp2_with (first | (go_at_call 8; go_in) | (go_at_call 9; refine (clone_empty _ _ _).mono ?_; rintro e w1 ⟨rfl, hbel⟩) | (go_at_call 10; refine (Hex.zz_short _ _ _ _ (by omega)).mono ?_; rintro e w2 ⟨rfl, rfl⟩))
  go_ret
  exact ⟨rfl, hbel⟩

theorem walk_short (b off len cap : Nat) (zs : List Int) (w : World) (h4 : len < 4) (hz : len ≤ zs.length) (hb : b < w.heap.size)
    (hc : ∀ j, j < len → w.cell? ⟨b, off + j, none⟩ = some (.int .u8 (zs.getD j 0))) :
    Calls Try.prog 3 #[.slice (some ⟨b, off, none⟩) len cap] w fun e w' => e = .returned (.bool true) ∧ Below w.heap.size w w' := by
  have hl : len ≤ 1048576 := by omega
  go_enter Try.func3, Try.ntmps3
  go_wp2_with (first | (go_at_call 8; go_in) | (go_at_call 9; refine (clone_some b off len cap zs _ hl hz hb hc).mono ?_; rintro e w1 ⟨rfl, hown, hbel⟩) | (go_at_call 10; refine (Hex.zz_short _ _ _ _ h4).mono ?_; rintro e w2 ⟨rfl, rfl⟩))
  go_ret
  exact ⟨rfl, hbel⟩
end Go.Proofs.Qxb6603013a.fnHex4Spec
