/-
  cloneBytes at every byte slice that can be read: one contract.
-/
import Derived.Test.Qxb6603013aClone
import Derived.ProofKit
import Derived.OpenShut
namespace Go.Proofs.Qxb6603013a.Clone
open Go.RowKit Go.ChangeShapes Go.WideShapes Go.ChangeAt

/-- A byte slice that came in, as the shells say it. -/
def Row (w : World) (a : Option Addr) (len cap : Nat) (zs : List Int) : Prop :=
  (a = none ∧ len = 0 ∧ cap = 0 ∧ zs = []) ∨
  ∃ x, a = some x ∧ len ≤ cap ∧ cap ≤ maxLen ∧ zs.length = cap ∧ (∀ i, i < zs.length → w.cell? (x.add i) = some (.int .u8 (zs.getD i 0))) ∧ ∀ n ∈ zs, (Lit.int .u8 n).wf = true

theorem Row.range {w : World} {a : Option Addr} {len cap : Nat} {zs : List Int} (h : Row w a len cap zs) (j : Nat) : 0 ≤ zs[j]?.getD 0 ∧ zs[j]?.getD 0 ≤ 255 := by
  rcases h with ⟨_, _, _, rfl⟩ | ⟨x, _, _, _, _, _, hw⟩
  · simp
  · exact range_u8 hw j

theorem Row.len_le {w : World} {a : Option Addr} {len cap : Nat} {zs : List Int} (h : Row w a len cap zs) : len ≤ zs.length := by
  rcases h with ⟨_, rfl, _, rfl⟩ | ⟨x, _, _, _, _, _, _⟩
  · simp
  · omega

/-- What the clone is. -/
structure Copied (w w1 : World) (ta : Option Addr) (len : Nat) (zs : List Int) : Prop where
  addr : 0 < len → ta = some ⟨w.heap.size, 0, none⟩
  cell : ∀ j, j < len → w1.cell? ⟨w.heap.size, j, none⟩ = some (.int .u8 (zs.getD j 0))
  size : 0 < len → w.heap.size < w1.heap.size
  below : Below w.heap.size w w1

theorem clone_row (a : Option Addr) (len cap : Nat) (zs : List Int) (w : World) (h : Row w a len cap zs) (hl : len ≤ 1048576) :
    Calls Try.prog 9 #[.slice a len cap] w fun e w1 => ∃ ta, e = .returned (.slice ta len len) ∧ Copied w w1 ta len zs := by
  rcases h with ⟨rfl, rfl, rfl, rfl⟩ | ⟨x, rfl, hlc, hm, hz, hc, hwf⟩
  · refine (clone_nil w).mono ?_
    rintro e w1 ⟨rfl, rfl⟩
    exact ⟨none, rfl, fun h => absurd h (by omega), fun j h => absurd h (by omega), fun h => absurd h (by omega), Below.refl _ _⟩
  · by_cases h0 : len = 0
    · subst h0
      refine (clone_empty x cap w).mono ?_
      rintro e w1 ⟨rfl, hb⟩
      exact ⟨_, rfl, fun h => absurd h (by omega), fun j h => absurd h (by omega), fun h => absurd h (by omega), hb⟩
    · obtain ⟨b, off, spot⟩ := x
      have hc0 := hc 0 (by omega)
      have hspot : spot = none := by simpa [Addr.add] using World.cell?_spot hc0
      subst hspot
      have hb : b < w.heap.size := block_lt_of_cell hc0
      have hc' : ∀ j, j < len → w.cell? ⟨b, off + j, none⟩ = some (.int .u8 (zs.getD j 0)) := fun j hj => by rw [← add_plain]; exact hc j (by omega)
      refine (clone_some b off len cap zs w hl (by omega) hb hc').mono ?_
      rintro e w1 ⟨rfl, hown, hbel⟩
      have hcell : ∀ j, j < len → w1.cell? ⟨w.heap.size, j, none⟩ = some (.int .u8 (zs.getD j 0)) := fun j hj => by
        have h1 := hown.cellAt j (by omega)
        have h2 : j < zs.length := by omega
        rw [h1]
        simp [hj, h2]
      exact ⟨_, rfl, fun _ => rfl, hcell, fun h => block_lt_of_cell (hcell 0 h), hbel⟩
end Go.Proofs.Qxb6603013a.Clone
