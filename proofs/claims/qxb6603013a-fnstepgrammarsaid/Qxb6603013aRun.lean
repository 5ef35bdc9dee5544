/-
  The grammar's automaton run over a list of bytes: plain lemmas.
-/
import Derived.Test.Qxb6603013aStep
namespace Go.Proofs.Qxb6603013a.Step

/-- The scanner run over a whole text, from state q. -/
def run : List Int → Int → Option Int
  | [], q => some q
  | c :: cs, q => if (stp q c).2 = true then run cs (stp q c).1 else none

/-- What parseNumberPrefix answers. -/
def ans : Option Int → Int × Bool
  | none => (0, false)
  | some q => (q, true)

theorem drop_step {zs : List Int} {len k : Nat} (hk : k < len) (hz : len ≤ zs.length) : (zs.take len).drop k = zs[k]?.getD 0 :: (zs.take len).drop (k + 1) := by
  have h1 : k < (zs.take len).length := by simp; omega
  rw [List.drop_eq_getElem_cons h1]
  congr 1
  have h2 : k < zs.length := by omega
  simp [List.getElem_take, h2]

theorem run_go {zs : List Int} {len k : Nat} {q q' : Int} (hk : k < len) (hz : len ≤ zs.length) (h : stp q (zs[k]?.getD 0) = (q', true)) :
    run ((zs.take len).drop k) q = run ((zs.take len).drop (k + 1)) q' := by
  rw [drop_step hk hz]
  simp [run, h]

theorem run_stop {zs : List Int} {len k : Nat} {q q' : Int} (hk : k < len) (hz : len ≤ zs.length) (h : stp q (zs[k]?.getD 0) = (q', false)) :
    run ((zs.take len).drop k) q = none := by
  rw [drop_step hk hz]
  simp [run, h]

theorem run_end {zs : List Int} {len k : Nat} {q : Int} (hk : len ≤ k) : run ((zs.take len).drop k) q = some q := by
  rw [List.drop_eq_nil_of_le (by simp; omega)]
  rfl

/-- The run over one byte more. -/
theorem run_snoc (l : List Int) (c q : Int) : run (l ++ [c]) q = (run l q).bind fun q' => if (stp q' c).2 = true then some (stp q' c).1 else none := by
  induction l generalizing q with
  | nil => simp [run]
  | cons d l ih =>
    simp only [List.cons_append, run]
    split
    · exact ih _
    · rfl

end Go.Proofs.Qxb6603013a.Step
