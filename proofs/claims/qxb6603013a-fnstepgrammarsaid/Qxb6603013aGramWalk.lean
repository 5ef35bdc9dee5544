/-
  FnStepGrammar (function 5): the walks.
-/
import Derived.Test.Qxb6603013aParse
import Derived.Test.Qxb6603013aClone
namespace Go.Proofs.Qxb6603013a.fnStepGrammar
open Go.RowKit
open Go.Proofs.Qxb6603013a.Step
open Go.Proofs.Qxb6603013a.Clone

set_option maxRecDepth 100000 in
theorem walk_off (n c : Int) (w : World) (hn : n < 0 ∨ 8 < n) :
    Calls Try.prog 5 #[.int .i64 n, .int .u8 c] w fun e w' => e = .returned (.bool true) ∧ Below w.heap.size w w' := by
  have hs : stp n c = (n, false) := by unfold stp; repeat (first | rw [if_pos (by omega)] | rw [if_neg (by omega)])
  have HZ := zz_any n c w
  rw [hs] at HZ
  clear hs
  rcases hn with hn | hn
  · go_enter Try.func5, Try.ntmps5
    go_wp2_with (go_at_call 13; refine HZ.mono ?_; rintro e w2 ⟨rfl, rfl⟩)
    go_ret
    exact ⟨rfl, Below.refl _ _⟩
  · have hn' : ¬ n < 0 := by omega
    go_enter Try.func5, Try.ntmps5
    go_wp2_with (go_at_call 13; refine HZ.mono ?_; rintro e w2 ⟨rfl, rfl⟩)
    go_ret
    exact ⟨rfl, Below.refl _ _⟩

/-- The text that stands at n. -/
def rep (n : Int) : List UInt8 :=
  if n = 0 then [] else if n = 1 then [45] else if n = 2 then [45, 48] else if n = 3 then [52, 55] else if n = 4 then [48, 46] else if n = 5 then [45, 51, 46, 50, 53]
  else if n = 6 then [49, 101] else if n = 7 then [48, 46, 53, 69, 45] else [57, 101, 43, 49, 48]

def nums (l : List UInt8) : List Int := l.map fun x => (x.toNat : Int)

theorem rep_stands (n : Int) (h0 : 0 ≤ n) (h8 : n ≤ 8) : run (nums (rep n)) 0 = some n := by
  have h : n = 0 ∨ n = 1 ∨ n = 2 ∨ n = 3 ∨ n = 4 ∨ n = 5 ∨ n = 6 ∨ n = 7 ∨ n = 8 := by omega
  rcases h with rfl | rfl | rfl | rfl | rfl | rfl | rfl | rfl | rfl <;> rfl

theorem rep_len (n : Int) : (rep n).length ≤ 5 := by
  unfold rep
  repeat (first | split | simp)

set_option maxRecDepth 100000 in
theorem rep_any (n : Int) (w : World) (h0 : 0 ≤ n) (h8 : n ≤ 8) :
    Calls Try.prog 14 #[.int .i64 n] w fun e w' => e = .returned (.string ⟨(rep n).toArray⟩) ∧ w' = w := by
  have h : n = 0 ∨ n = 1 ∨ n = 2 ∨ n = 3 ∨ n = 4 ∨ n = 5 ∨ n = 6 ∨ n = 7 ∨ n = 8 := by omega
  rcases h with rfl | rfl | rfl | rfl | rfl | rfl | rfl | rfl | rfl
  all_goals
    go_enter Try.func14, Try.ntmps14
    go_wp2
    go_ret
    exact ⟨rfl, rfl⟩

theorem nums_len (s : ByteArray) : (nums s.data.toList).length = s.size := by simp [nums]

theorem nums_snoc (s : ByteArray) (k : Nat) (h : k < s.size) : (nums s.data.toList).take (k + 1) = (nums s.data.toList).take k ++ [(s[k].toNat : Int)] := by
  rw [List.take_succ_eq_append_getElem (by rw [nums_len]; exact h)]
  congr 1
  simp [nums]
  rfl

theorem stp_false (n c q : Int) (h : stp n c = (q, false)) : q = n := by
  unfold stp at h
  repeat (first | (rw [Prod.mk.injEq] at h; first | exact h.1.symm | (exact absurd h.2 (by decide))) | split at h)

/-- The cells of an owned row of bytes, as parse_any asks for them. -/
theorem own_cells {w : World} {base g n cap : Nat} {zs : List Int} (h : w.ownsRow base 5 1 (.slice (some ⟨g, 0, none⟩) n cap) n (zs.map (Value.int .u8))) (hl : zs.length = n) :
    ∀ j, j < n → w.cell? ⟨g, 0 + j, none⟩ = some (.int .u8 (zs.getD j 0)) := fun j hj => by
  have h1 := h.cellAt j (by omega)
  have h2 : j < zs.length := by omega
  rw [Nat.zero_add, h1]
  simp only [List.getElem?_map, List.getD, List.getElem?_eq_getElem h2, Option.map_some, Option.getD_some]

set_option maxHeartbeats 1000000 in
set_option maxRecDepth 100000 in
theorem walk_in (n c : Int) (w : World) (h0 : 0 ≤ n) (h8 : n ≤ 8) (s : ByteArray) (hsz : s.size ≤ 5) (HR : Hid (run (nums s.data.toList) 0 = some n))
    (HS : ∀ w, Calls Try.prog 14 #[.int .i64 n] w fun e w' => e = .returned (.string s) ∧ w' = w) :
    Calls Try.prog 5 #[.int .i64 n, .int .u8 c] w fun e w' => e = .returned (.bool true) ∧ Below w.heap.size w w' := by
  obtain ⟨i0, hi, hz0, hz1, hz2⟩ := info_parts info5
  have hn1 : ¬ n < 0 := by omega
  have hn2 : ¬ 8 < n := by omega
  rcases hs : stp n c with ⟨q', bb⟩
  have HZ := zz_any n c w
  rw [hs] at HZ
  have HW := HS w
  go_enter Try.func5, Try.ntmps5
  go_wp2_with (first | (go_at_call 13; refine HZ.mono ?_; rintro e w2 ⟨rfl, rfl⟩) | (go_at_call 14; refine HW.mono ?_; rintro e w2 ⟨rfl, rfl⟩) | (at_make; refine wpList_make_own _ rfl _ _ 22 rfl w2.heap.size 5 i0 (.int .u8 0) 1 Try.underlying22 hi hz0 hz1 _ _ _ (s.size + 1) rfl rfl (by omega) ?b2 ?b3 (Nat.le_refl _) ?_))
  case b2 => rw [hz2]; omega
  case b3 => unfold maxLen; omega
  intro w3 hown3 hgrow3
  have hbel3 : Below w2.heap.size w2 w3 := (Below.refl _ _).grown hgrow3 (Nat.le_refl _) (fun k h => by cases h)
  clear hgrow3 HZ HW HS
  have HST : Hid (stp n c = (q', bb)) := hs
  clear hs
  go_wp2_with fail
  go_loopw [8, 9] (fun bu i wr => ∃ k : Nat, k ≤ s.size ∧ i = .int .i64 k ∧ bu = .slice (some ⟨w2.heap.size, 0, none⟩) k (s.size + 1) ∧
      wr.ownsRow w2.heap.size 5 1 (.slice (some ⟨w2.heap.size, 0, none⟩) k (s.size + 1)) k (((nums s.data.toList).take k).map (Value.int .u8)) ∧ Below w2.heap.size w2 wr)
    (fun _ i _ => s.size - (intOf i).toNat)
  case atStart => exact ⟨0, by omega, rfl, rfl, hown3, hbel3⟩
  case round =>
    obtain ⟨k, hk, rfl, rfl, hown, hnx⟩ := hrel
    have hszx := hnx.size
    clear hown3 hbel3
    by_cases hkl : k < s.size
    · go_wp2_with (at_builtin; refine wpList_append_fits _ rfl (.tmp 45) (.tmp 49) 22 rfl w2.heap.size 5 i0 1 Try.underlying22 hi hz1 w2.heap.size _ (s.size + 1) _ rfl (hown.alloc _) ⟨wr.heap.size, 0, none⟩ 1 1 [_] rfl rfl (cell_one_new _ _ _) (by intro u hu; simp at hu; subst hu; rfl) (by omega) ?_; intro w4 hown4 hgrow4)
      go_roundw
      case rel => exact ⟨k + 1, by omega, by go_num, rfl, by rw [nums_snoc s k hkl, List.map_append]; exact hown4, (hnx.alloc hnx.size _).grown hgrow4 (by simp; omega) (fun k hk => by cases hk; exact Nat.le_refl _)⟩
      case measure => simp [intOf]; omega
    · have hkl' : k = s.size := by omega
      subst hkl'
      rw [List.take_of_length_le (by rw [nums_len]; exact Nat.le_refl _)] at hown
      have HP1 := parse_any w2.heap.size 0 s.size (s.size + 1) (nums s.data.toList) wr (by omega) (by rw [nums_len]; exact Nat.le_refl _) (own_cells hown (nums_len s))
      rw [List.take_of_length_le (by rw [nums_len]; exact Nat.le_refl _), HR.out] at HP1
      simp only [ans] at HP1
      go_wp2_with fail
      refine HP1.mono ?_
      rintro e w5 ⟨rfl, rfl⟩
      go_wp2_with (at_builtin; refine wpList_append_fits _ rfl (.tmp 63) (.tmp 65) 22 rfl w2.heap.size 5 i0 1 Try.underlying22 hi hz1 w2.heap.size _ (s.size + 1) _ rfl (hown.alloc _) ⟨w5.heap.size, 0, none⟩ 1 1 [_] rfl rfl (cell_one_new _ _ _) (by intro u hu; simp at hu; subst hu; rfl) (by omega) ?_; intro w6 hown6 hgrow6)
      have hown7 : w6.ownsRow w2.heap.size 5 1 (.slice (some ⟨w2.heap.size, 0, none⟩) (s.size + 1) (s.size + 1)) (s.size + 1) ((nums s.data.toList ++ [c]).map (Value.int .u8)) := by
        rw [List.map_append]; exact hown6
      have hbel6 : Below w2.heap.size w2 w6 := (hnx.alloc hnx.size _).grown hgrow6 (by simp; omega) (fun k hk => by cases hk; exact Nat.le_refl _)
      have hl7 : (nums s.data.toList ++ [c]).length = s.size + 1 := by rw [List.length_append, nums_len]; rfl
      have HP2 := parse_any w2.heap.size 0 (s.size + 1) (s.size + 1) (nums s.data.toList ++ [c]) w6 (by omega) (by rw [hl7]; exact Nat.le_refl _) (own_cells hown7 hl7)
      rw [List.take_of_length_le (by rw [hl7]; exact Nat.le_refl _), run_snoc, HR.out] at HP2
      have hst := HST.out
      cases bb with
      | true =>
        simp only [Option.bind_some, hst, if_true, ans] at HP2
        clear hown hown6 hgrow6 hown7 hst HP1
        refine HP2.mono ?_
        rintro e w7 ⟨rfl, rfl⟩
        go_wp2_with fail
        go_ret
        exact ⟨rfl, hbel6⟩
      | false =>
        have hq : q' = n := by
          have h := stp_false n c q' hst
          exact h
        subst hq
        simp only [Option.bind_some, hst, ans] at HP2
        clear hown hown6 hgrow6 hown7 hst HP1
        refine HP2.mono ?_
        rintro e w7 ⟨rfl, rfl⟩
        go_wp2_with fail
        go_ret
        exact ⟨rfl, hbel6⟩
end Go.Proofs.Qxb6603013a.fnStepGrammar
