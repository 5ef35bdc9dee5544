/-
  Rows that FnHasMatchesLinearModel makes for itself: plain lemmas.
-/
import Derived.Test.Qxb6601968aHasArgs
namespace Go.Proofs.Qxb6601968a.Has
open Go.RowKit

/-- The cells of a list of pairs. -/
def flatV : List (Value × Value) → List Value
  | [] => []
  | e :: es => e.1 :: e.2 :: flatV es

theorem flatV_len (l : List (Value × Value)) : (flatV l).length = l.length * 2 := by
  induction l with
  | nil => rfl
  | cons e l ih => simp only [flatV, List.length_cons, ih]; omega

theorem flatV_append (l m : List (Value × Value)) : flatV (l ++ m) = flatV l ++ flatV m := by
  induction l with
  | nil => rfl
  | cons e l ih => simp only [List.cons_append, flatV, ih]

theorem flatV_fst (l : List (Value × Value)) (j : Nat) : (flatV l)[j * 2]? = l[j]?.map (·.1) := by
  induction l generalizing j with
  | nil => simp [flatV]
  | cons e l ih =>
    cases j with
    | zero => rfl
    | succ j =>
      have e1 : (j + 1) * 2 = j * 2 + 1 + 1 := by omega
      rw [e1]
      simp only [flatV, List.getElem?_cons_succ, ih j]

theorem flatV_snd (l : List (Value × Value)) (j : Nat) : (flatV l)[j * 2 + 1]? = l[j]?.map (·.2) := by
  induction l generalizing j with
  | nil => simp [flatV]
  | cons e l ih =>
    cases j with
    | zero => rfl
    | succ j =>
      have e1 : (j + 1) * 2 + 1 = j * 2 + 1 + 1 + 1 := by omega
      rw [e1]
      simp only [flatV, List.getElem?_cons_succ, ih j]

theorem made_pair (z0 z1 : Value) (n : Nat) : (madeCells #[z0, z1] (n * 2)).toList = flatV (List.replicate n (z0, z1)) := by
  apply List.ext_getElem?
  intro j
  have hj2 : j = j / 2 * 2 ∨ j = j / 2 * 2 + 1 := by omega
  by_cases hj : j < n * 2
  · have hq : j / 2 < n := by omega
    rcases hj2 with h | h
    · have hm : j % 2 = 0 := by omega
      have hr : (flatV (List.replicate n (z0, z1)))[j]? = some z0 := by
        rw [h, flatV_fst]; simp [hq]
      rw [hr]
      simp [madeCells, hj, hm]
    · have hm : j % 2 = 1 := by omega
      have hr : (flatV (List.replicate n (z0, z1)))[j]? = some z1 := by
        rw [h, flatV_snd]; simp [hq]
      rw [hr]
      simp [madeCells, hj, hm]
  · have h1 : (flatV (List.replicate n (z0, z1))).length ≤ j := by rw [flatV_len]; simp; omega
    rw [List.getElem?_eq_none h1]
    simp [madeCells, hj]

/-- What is written so far, and empty pairs behind it. -/
def part2 (P : List (Value × Value)) (z0 z1 : Value) (m : Nat) : List Value := flatV P ++ flatV (List.replicate m (z0, z1))

theorem part2_set (P : List (Value × Value)) (z0 z1 a b : Value) (k m : Nat) (hk : P.length = k) : ((part2 P z0 z1 (m + 1)).set (k * 2) a).set (k * 2 + 1) b = part2 (P ++ [(a, b)]) z0 z1 m := by
  have hl : (flatV P).length = k * 2 := by rw [flatV_len, hk]
  unfold part2
  rw [List.replicate_succ, flatV_append, ← hl, List.set_append_right _ _ (Nat.le_refl _), List.set_append_right _ _ (by omega)]
  simp [flatV]

theorem part2_full (P : List (Value × Value)) (z0 z1 : Value) : part2 P z0 z1 0 = flatV P := by simp [part2, flatV]

/-- Each pair: a key of K, and a slice. -/
def GoodP (K : List Int) (P : List (Value × Value)) : Prop := ∀ (x : Nat) (p : Value × Value), P[x]? = some p → p.1 = .int .u16 (K.getD x 0) ∧ ∃ va vl vc, p.2 = .slice va vl vc

theorem goodP_nil (K : List Int) : GoodP K [] := by intro x p h; simp at h

theorem goodP_snoc {K : List Int} {P : List (Value × Value)} {va : Option Addr} {vl vc k : Nat} (h : GoodP K P) (hk : P.length = k) : GoodP K (P ++ [(.int .u16 (K.getD k 0), .slice va vl vc)]) := by
  intro x p hx
  rcases Nat.lt_or_ge x P.length with h1 | h1
  · rw [List.getElem?_append_left h1] at hx
    exact h x p hx
  · rw [List.getElem?_append_right h1] at hx
    have h2 : x - P.length = 0 := by
      have := (List.getElem?_eq_some_iff.1 hx).1
      simp at this
      omega
    rw [h2] at hx
    simp at hx
    subst hx
    have : x = k := by omega
    subst this
    exact ⟨rfl, va, vl, vc, rfl⟩

theorem prow_of {w : World} {base e g n : Nat} {K : List Int} {P : List (Value × Value)} (h : w.ownsRow base e 2 (.slice (some ⟨g, 0, none⟩) n n) n (flatV P)) (hP : P.length = n) (hg : GoodP K P) (hK : K.length = n) (hr : ∀ j : Nat, 0 ≤ K.getD j 0 ∧ K.getD j 0 ≤ 65535) :
    PRow w (some ⟨g, 0, none⟩) n K := by
  refine ⟨hK, hr, fun _ => ⟨g, 0, rfl, (h.lt g rfl).2, fun j hj => ?_, fun j hj => ?_⟩⟩
  · have hjP : j < P.length := by omega
    have h1 := hg j P[j] (List.getElem?_eq_getElem hjP)
    rw [Nat.zero_add, h.cellAt (j * 2) (by omega), flatV_fst, List.getElem?_eq_getElem hjP]
    simp [h1.1]
  · have hjP : j < P.length := by omega
    obtain ⟨_, va, vl, vc, h2⟩ := hg j P[j] (List.getElem?_eq_getElem hjP)
    refine ⟨va, vl, vc, ?_⟩
    rw [Nat.zero_add, h.cellAt (j * 2 + 1) (by omega), flatV_snd, List.getElem?_eq_getElem hjP]
    simp [h2]

theorem mrow_of {w : World} {base e g n : Nat} {zs : List Int} (h : w.ownsRow base e 1 (.slice (some ⟨g, 0, none⟩) n n) n (zs.map (Value.int .u16))) : MRow w (some ⟨g, 0, none⟩) n := by
  refine ⟨(fun h => by cases h), fun _ => ⟨g, 0, rfl, (h.lt g rfl).2, fun j hj => ?_⟩⟩
  have hl := h.1
  rw [List.length_map] at hl
  have hjz : j < zs.length := by omega
  refine ⟨zs[j], ?_⟩
  rw [Nat.zero_add, h.cellAt j (by omega)]
  simp [hjz]

theorem sorted_of (K : List Int) (n : Nat) (hn : K.length = n) (h : ∀ x, x + 1 < n → K.getD x 0 ≤ K.getD (x + 1) 0) : Sorted K := by
  intro i j hij hj
  induction j with
  | zero => have : i = 0 := by omega
            subst this; exact Int.le_refl _
  | succ j ih =>
    rcases Nat.lt_or_ge j i with h1 | h1
    · have : i = j + 1 := by omega
      subst this; exact Int.le_refl _
    · have h2 := ih h1 (by omega)
      have h3 := h j (by omega)
      omega

theorem info29 : (Try.prog.info? 29).map (fun i => (i.zero, i.size, i.bytes)) = some (some (.int .u16 0), 1, 2) := by kernel_rfl
theorem info36 : (Try.prog.info? 36).map (fun i => (i.zero, i.size, i.bytes)) = some (some (.int .u16 0), 1, 2) := by kernel_rfl
theorem info9 : (Try.prog.info? 9).map (fun i => (i.zero, i.size, i.bytes)) = some (some (.string ⟨#[]⟩), 1, 16) := by kernel_rfl
theorem info5 : (Try.prog.info? 5).map (fun i => (i.zero, i.size, i.bytes)) = some (some (.int .u8 0), 1, 1) := by kernel_rfl
theorem info34 : (Try.prog.info? 34).map (fun i => (i.zero, i.size, i.bytes)) = some (some (.agg #[.int .u16 0, .slice none 0 0]), 2, 32) := by kernel_rfl
theorem info39 : (Try.prog.info? 39).map (fun i => (i.zero, i.size, i.bytes)) = some (some (.agg #[.int .u16 0, .slice none 0 0]), 2, 32) := by kernel_rfl
end Go.Proofs.Qxb6601968a.Has
