/-
  The arguments of FnHasMatchesLinearModel, opened.
-/
import Derived.Test.Qxb6601968aHasRows
import Derived.ProofKit
import Derived.OpenShut
import Derived.ChangeOld
import Derived.Deep.SlicePairs
import Derived.Deep.Strs
namespace Go.Proofs.Qxb6601968a.Has
open Go.ChangeShapes Go.WideShapes Go.ChangeAt Go.RowKit

theorem cells29 : Try.prog.cellsOf 29 = 1 := by kernel_rfl
theorem cells9 : Try.prog.cellsOf 9 = 1 := by kernel_rfl
theorem cells5 : Try.prog.cellsOf 5 = 1 := by kernel_rfl
theorem cells32 : Try.prog.cellsOf 32 = 1 := by kernel_rfl
theorem cells34 : Try.prog.cellsOf 34 = 2 := by kernel_rfl

section
variable {H : Type} {enc : TypeId × Value → H} {W : World} {fuel : Nat} {a : Option Addr} {len cap : Nat} {x : DataW H × List MemPlace}

theorem open_m (hf : DataW.trod enc Try.prog W 0 (fun _ => true) true fuel 27 [.slice a len cap] = some x) : len ≤ maxLen ∧ MRow W a len := by
  rcases open_ints Try.underlying27 Try.underlying29 cells29 hf with ⟨hcs, _⟩ | ⟨y, l, c, zs, hcs, _, hl, hm, hz, _, hcell, _⟩
  · simp at hcs
    obtain ⟨rfl, rfl, rfl⟩ := hcs
    exact ⟨Nat.zero_le _, ⟨fun _ => rfl, fun h => absurd h (by omega)⟩⟩
  · simp at hcs
    obtain ⟨rfl, rfl, rfl⟩ := hcs
    simp at hz
    refine ⟨Nat.le_trans hl hm, ⟨(fun h => by cases h), fun h0 => ?_⟩⟩
    obtain ⟨b, off, spot⟩ := y
    have hc0 := hcell 0 (by omega)
    have hspot : spot = none := by simpa [Addr.add] using World.cell?_spot hc0
    subst hspot
    refine ⟨b, off, rfl, block_lt_of_cell hc0, fun j hj => ⟨zs.getD j 0, ?_⟩⟩
    rw [← add_plain]
    exact hcell j (by omega)

theorem open_s (hf : DataW.trod enc Try.prog W 0 (fun _ => true) true fuel 28 [.slice a len cap] = some x) : len ≤ maxLen ∧ SRow W a len := by
  rcases Deep.open_strs Try.underlying28 Try.underlying9 cells9 hf with ⟨hcs, _⟩ | ⟨y, l, c, m, Sx, hcs, _, hl, hm, hmm, _, hcell⟩
  · simp at hcs
    obtain ⟨rfl, rfl, rfl⟩ := hcs
    exact ⟨Nat.zero_le _, ⟨fun _ => rfl, fun h => absurd h (by omega)⟩⟩
  · simp at hcs
    obtain ⟨rfl, rfl, rfl⟩ := hcs
    simp at hmm
    subst hmm
    refine ⟨Nat.le_trans hl hm, ⟨(fun h => by cases h), fun h0 => ?_⟩⟩
    obtain ⟨b, off, spot⟩ := y
    have hc0 := (hcell 0 (by omega)).1
    have hspot : spot = none := by simpa [Addr.add] using World.cell?_spot hc0
    subst hspot
    refine ⟨b, off, rfl, block_lt_of_cell hc0, fun j hj => ⟨Sx j, ?_⟩⟩
    rw [← add_plain]
    exact (hcell j (by omega)).1

/-- The value of a parameter: a slice of bytes. -/
theorem open_v {n : Nat} {v : Value} (h : DataW.trod enc Try.prog W 0 (fun _ => true) true n 32 [v] = some x) : ∃ va vl vc, v = .slice va vl vc ∧ VRow W va vl := by
  rcases open_ints Try.underlying32 Try.underlying5 cells5 h with ⟨hcs, _⟩ | ⟨y, l, c, zs, hcs, _, hl, hm, hz, _, hcell, _⟩
  · simp at hcs
    subst hcs
    exact ⟨none, 0, 0, rfl, ⟨fun _ => rfl, Nat.zero_le _, fun h => absurd h (by omega)⟩⟩
  · simp at hcs
    subst hcs
    simp at hz
    refine ⟨_, _, _, rfl, ⟨(fun h => by cases h), Nat.le_trans hl hm, fun h0 => ?_⟩⟩
    obtain ⟨b, off, spot⟩ := y
    have hc0 := hcell 0 (by omega)
    have hspot : spot = none := by simpa [Addr.add] using World.cell?_spot hc0
    subst hspot
    refine ⟨b, off, rfl, block_lt_of_cell hc0, fun j hj => ⟨zs.getD j 0, ?_⟩⟩
    rw [← add_plain]
    exact hcell j (by omega)

def numOf : Value → Int | .int _ n => n | _ => 0
def partsOf : Value → Option Addr × Nat × Nat | .slice a n c => (a, n, c) | _ => (none, 0, 0)

theorem open_o (hf : DataW.trod enc Try.prog W 0 (fun _ => true) true fuel 30 [.slice a len cap] = some x) : len ≤ maxLen ∧ ∃ K V, ORow W a len K V := by
  rcases Deep.open_slice_pairs Try.underlying30 Try.underlying34 cells34 rfl rfl cells29 cells32 hf with ⟨hcs, _⟩ | ⟨y, l, c, m, n, V0, V1, D0, D1, P0, P1, hcs, _, hl, hm, hmm, _, hcell⟩
  · simp at hcs
    obtain ⟨rfl, rfl, rfl⟩ := hcs
    exact ⟨Nat.zero_le _, [], fun _ => (none, 0, 0), ⟨fun _ => rfl, rfl, fun j => by simp, fun h => absurd h (by omega), fun j h => absurd h (by omega)⟩⟩
  · simp at hcs
    obtain ⟨rfl, rfl, rfl⟩ := hcs
    simp at hmm
    subst hmm
    have hk : ∀ i, i < len → V0 i = .int .u16 (numOf (V0 i)) ∧ 0 ≤ numOf (V0 i) ∧ numOf (V0 i) ≤ 65535 := fun i hi => by
      obtain ⟨z, hz, _, hw⟩ := DataW.trod_int Try.underlying29 (hcell i (by omega)).2.2.1
      simp at hz
      have hb := bounds_u16 hw
      rw [hz]
      exact ⟨rfl, hb⟩
    have hv : ∀ i, i < len → V1 i = .slice (partsOf (V1 i)).1 (partsOf (V1 i)).2.1 (partsOf (V1 i)).2.2 ∧ VRow W (partsOf (V1 i)).1 (partsOf (V1 i)).2.1 := fun i hi => by
      obtain ⟨va, vl, vc, hz, hr⟩ := open_v (hcell i (by omega)).2.2.2
      rw [hz]
      exact ⟨rfl, hr⟩
    have hget : ∀ j, j < len → ((List.range len).map fun i => numOf (V0 i)).getD j 0 = numOf (V0 j) := fun j hj => by simp [List.getD, hj]
    refine ⟨Nat.le_trans hl hm, (List.range len).map fun i => numOf (V0 i), fun i => partsOf (V1 i), ⟨(fun h => by cases h), by simp, fun j => ?_, fun h0 => ?_, fun j hj => (hv j hj).2⟩⟩
    · by_cases hj : j < len
      · rw [hget j hj]; exact (hk j hj).2
      · have : ((List.range len).map fun i => numOf (V0 i)).getD j 0 = 0 := by simp [List.getD, List.getElem?_eq_none (show (List.range len).length ≤ j by simp; omega)]
        rw [this]; omega
    · obtain ⟨b, off, spot⟩ := y
      have hc0 := (hcell 0 (by omega)).1
      have hspot : spot = none := by simpa [Addr.add] using World.cell?_spot hc0
      subst hspot
      refine ⟨b, off, rfl, block_lt_of_cell hc0, fun j hj => ?_, fun j hj => ?_⟩
      · obtain ⟨h1, _⟩ := hcell j (by omega)
        rw [add_plain] at h1
        rw [h1, hget j hj, ← (hk j hj).1]
      · obtain ⟨_, h2, _⟩ := hcell j (by omega)
        rw [add_plain, ← Nat.add_assoc] at h2
        rw [h2, ← (hv j hj).1]
end
end Go.Proofs.Qxb6601968a.Has
