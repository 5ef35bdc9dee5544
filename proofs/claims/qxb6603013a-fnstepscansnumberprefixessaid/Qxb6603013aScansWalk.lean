/-
  FnStepScansNumberPrefixes (function 6): the walks.
-/
import Derived.Test.Qxb6603013aParse
import Derived.Test.Qxb6603013aCloneRow
namespace Go.Proofs.Qxb6603013a.fnStepScansNumberPrefixes
open Go.RowKit
open Go.Proofs.Qxb6603013a.Step
open Go.Proofs.Qxb6603013a.Clone

theorem walk_huge (a : Option Addr) (len cap : Nat) (w : World) (hl : 1048576 < len) :
    Calls Try.prog 6 #[.slice a len cap] w fun e w' => e = .returned (.bool true) ∧ Below w.heap.size w w' := by
  go_enter Try.func6, Try.ntmps6
  go_wp2
  go_ret
  exact ⟨rfl, Below.refl _ _⟩

theorem take_snoc (zs : List Int) (t : Nat) (h : t < zs.length) : zs.take (t + 1) = zs.take t ++ [zs[t]?.getD 0] := by
  rw [List.take_succ_eq_append_getElem h]; simp [h]

theorem scan_go {zs : List Int} {k : Nat} {q q' : Int} (hk : k < zs.length) (h : run (zs.take k) 0 = some q) (hs : stp q (zs[k]?.getD 0) = (q', true)) : run (zs.take (k + 1)) 0 = some q' := by
  rw [take_snoc zs k hk, run_snoc, h]
  simp [hs]

theorem scan_stop {zs : List Int} {k : Nat} {q q' : Int} (hk : k < zs.length) (h : run (zs.take k) 0 = some q) (hs : stp q (zs[k]?.getD 0) = (q', false)) : run (zs.take (k + 1)) 0 = none := by
  rw [take_snoc zs k hk, run_snoc, h]
  simp [hs]

set_option maxHeartbeats 1000000 in
set_option maxRecDepth 100000 in
theorem walk_empty (a : Option Addr) (cap : Nat) (zs : List Int) (w : World) (hrow : Row w a 0 cap zs) :
    Calls Try.prog 6 #[.slice a 0 cap] w fun e w' => e = .returned (.bool true) ∧ Below w.heap.size w w' := by
  go_enter Try.func6, Try.ntmps6
  go_wp2_with (first | (go_at_call 16; go_in) | (go_at_call 9; refine (clone_row a 0 cap zs _ hrow (by omega)).mono ?_; rintro e w1 ⟨ta, rfl, hcp⟩))
  have hbel := hcp.below
  clear hcp hrow
  refine wp_loop_rounds 1 ?_
  rw [rounds_succ]
  cases ta
  all_goals
    go_wp2_with (go_at_call 15; refine (parse_empty _ _ _).mono ?_; rintro e w2 ⟨rfl, rfl⟩)
    go_ret
    exact ⟨rfl, hbel⟩

set_option maxHeartbeats 1000000 in
set_option maxRecDepth 100000 in
theorem walk_some (a : Option Addr) (len cap : Nat) (zs : List Int) (w : World) (h0 : 0 < len) (hl : len ≤ 1048576) (hrow : Row w a len cap zs) :
    Calls Try.prog 6 #[.slice a len cap] w fun e w' => e = .returned (.bool true) ∧ Below w.heap.size w w' := by
  have hz := hrow.len_le
  go_enter Try.func6, Try.ntmps6
  go_wp2_with (first | (go_at_call 16; go_in) | (go_at_call 9; refine (clone_row a len cap zs _ hrow hl).mono ?_; rintro e w1 ⟨ta, rfl, hcp⟩))
  obtain rfl := hcp.addr h0
  have hcells := hcp.cell
  have hcells0 : ∀ j, j < len → w1.cell? ⟨w.heap.size, 0 + j, none⟩ = some (.int .u8 (zs.getD j 0)) := fun j hj => by rw [Nat.zero_add]; exact hcells j hj
  have hbel := hcp.below
  clear hcp hrow
  go_loop [3, 4] (fun st i => ∃ (k : Nat) (q : Int), i = .int .i64 k ∧ st = .int .i64 q ∧ k ≤ len ∧ Hid (run (zs.take k) 0 = some q)) (fun _ i => len - (intOf i).toNat)
  case atStart => exact ⟨0, 0, rfl, rfl, by omega, rfl⟩
  case round =>
    obtain ⟨k, q, rfl, rfl, hk, HK⟩ := hrel
    have HP := parse_any w.heap.size 0 k len zs w1 (by omega) (by omega) (fun j hj => hcells0 j (by omega))
    have hA : ans (run (zs.take k) 0) = (q, true) := by rw [HK.out]; rfl
    rw [hA] at HP
    clear hA
    by_cases hkl : k < len
    · have hck := hcells k hkl
      rcases hs : stp q (zs[k]?.getD 0) with ⟨q', bb⟩
      cases bb with
      | true =>
        have HN : Hid (run (zs.take (k + 1)) 0 = some q') := scan_go (by omega) HK.out hs
        have HZ := zz_any q (zs[k]?.getD 0) w1
        rw [hs] at HZ
        clear HP hs
        go_wp2_with (go_at_call 13; refine HZ.mono ?_; rintro e w2 ⟨rfl, rfl⟩)
        go_round
        case rel => exact ⟨k + 1, q', by go_num, rfl, by omega, HN⟩
        case measure => simp [intOf]; omega
      | false =>
        have HP2 := parse_any w.heap.size 0 (k + 1) len zs w1 (by omega) (by omega) (fun j hj => hcells0 j (by omega))
        rw [scan_stop (by omega) HK.out hs] at HP2
        have HZ := zz_any q (zs[k]?.getD 0) w1
        rw [hs] at HZ
        clear hs
        go_wp2_with fail
        refine HZ.mono ?_
        rintro e w2 ⟨rfl, rfl⟩
        go_wp2_with fail
        refine HP.mono ?_
        rintro e w2 ⟨rfl, rfl⟩
        go_wp2_with fail
        refine HP2.mono ?_
        rintro e w2 ⟨rfl, rfl⟩
        go_wp2_with fail
        go_ret
        exact ⟨rfl, hbel⟩
    · have hkl' : k = len := by omega
      subst hkl'
      go_wp2_with (go_at_call 15; refine HP.mono ?_; rintro e w2 ⟨rfl, rfl⟩)
      go_ret
      exact ⟨rfl, hbel⟩
end Go.Proofs.Qxb6603013a.fnStepScansNumberPrefixes
