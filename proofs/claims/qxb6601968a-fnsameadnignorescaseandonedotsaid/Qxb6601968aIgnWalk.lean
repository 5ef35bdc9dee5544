/-
  FnSameADNIgnoresCaseAndOneDot (function 6): the walks.
-/
import Derived.Test.Qxb6601968aCase
namespace Go.Proofs.Qxb6601968a.fnSameADNIgnoresCaseAndOneDot
open Go.RowKit
open Go.Proofs.Qxb6601968a.Adn

/-! ### The plain law -/
theorem upi46 (c : Int) : upi c = 46 ↔ c = 46 := by unfold upi; split <;> omega
theorem lwi46 (c : Int) : lwi c = 46 ↔ c = 46 := by unfold lwi; split <;> omega
theorem lwi_upi (c : Int) : lwi (upi c) = lwi c := by unfold lwi upi; repeat (first | split | omega)
theorem lwi_lwi (c : Int) : lwi (lwi c) = lwi c := by unfold lwi; repeat (first | split | omega)

theorem tr_map (f : Int → Int) (hf : ∀ c, f c = 46 ↔ c = 46) (l : List Int) : tr (l.map f) = (tr l).map f := by
  unfold tr
  have e : ((l.map f).getLast? = some 46) ↔ (l.getLast? = some 46) := by
    rw [List.getLast?_map]
    cases l.getLast? with
    | none => simp
    | some x => simp [hf x]
  by_cases h : l.getLast? = some 46
  · rw [if_pos (e.2 h), if_pos h, List.map_dropLast]
  · rw [if_neg (fun h2 => h (e.1 h2)), if_neg h]

theorem key_map (f : Int → Int) (hf : ∀ c, f c = 46 ↔ c = 46) (hl : ∀ c, lwi (f c) = lwi c) (l : List Int) : key (l.map f) = key l := by
  unfold key
  rw [tr_map f hf, List.map_map]
  apply List.map_congr_left
  intro x _
  exact hl x

theorem key_dot (l : List Int) : key (l ++ [46]) = l.map lwi := by
  unfold key tr
  simp

theorem key_dot_same (l : List Int) : (key l = key (l ++ [46])) ↔ ¬ l.getLast? = some 46 := by
  rw [key_dot]
  unfold key tr
  by_cases h : l.getLast? = some 46
  · rw [if_pos h]
    constructor
    · intro e
      have h2 := congrArg List.length e
      cases l with
      | nil => simp at h
      | cons a l => simp at h2
    · intro h2; exact absurd h h2
  · rw [if_neg h]
    exact ⟨fun _ => h, fun _ => rfl⟩

theorem bs_dot (a : ByteArray) : bs (a ++ ⟨#[46]⟩) = bs a ++ [46] := by
  unfold bs
  rw [ByteArray.data_append]
  simp

theorem last_at (a : ByteArray) (h : 0 < a.size) : (bs a).getLast? = some (a[a.size - 1].toNat : Int) := by
  have h1 := bs_at a (a.size - 1) (by omega)
  rw [List.getLast?_eq_getElem?, bs_len]
  exact h1

theorem zz_known (a b : ByteArray) (w : World) (ha : a.size ≤ 262145) (hb : b.size ≤ 262145) (r : Bool) (h : decide (key (bs a) = key (bs b)) = r) :
    Calls Try.prog 14 #[.string a, .string b] w fun e w' => e = .returned (.bool r) ∧ Below w.heap.size w w' := by
  have hz := zz_any a b w (by omega) (by omega)
  rwa [h] at hz

theorem walk_big (a : ByteArray) (w : World) (ha : a.size ≤ maxLen) (h : 262144 < a.size) :
    Calls Try.prog 6 #[.string a] w fun e w' => e = .returned (.bool true) ∧ Below w.heap.size w w' := by
  unfold maxLen at ha
  go_enter Try.func6, Try.ntmps6
  go_wp2
  all_goals
    go_ret
    exact ⟨rfl, Below.refl _ _⟩

set_option maxHeartbeats 1000000 in
theorem walk_in (a : ByteArray) (w : World) (ha : a.size ≤ 262144) :
    Calls Try.prog 6 #[.string a] w fun e w' => e = .returned (.bool true) ∧ Below w.heap.size w w' := by
  go_enter Try.func6, Try.ntmps6
  go_wp2_with (go_at_call 15; go_in)
  refine (upper_any a _ ha).mono ?_
  rintro e w1 ⟨⟨up, rfl, HU⟩, b1⟩
  go_wp2_with fail
  refine (lower'_any a _ ha).mono ?_
  rintro e w2 ⟨⟨lo, rfl, HL⟩, b2⟩
  have c2 := b1.trans (b2.mono b1.size)
  have hup : up.size ≤ 262144 := by have h := congrArg List.length HU.out; rw [List.length_map, bs_len, bs_len] at h; omega
  have hlo : lo.size ≤ 262144 := by have h := congrArg List.length HL.out; rw [List.length_map, bs_len, bs_len] at h; omega
  have KU : Hid (key (bs up) = key (bs a)) := by show _ = _; rw [HU.out]; exact key_map upi upi46 lwi_upi _
  have KL : Hid (key (bs lo) = key (bs a)) := by show _ = _; rw [HL.out]; exact key_map lwi lwi46 lwi_lwi _
  clear b1 b2 HU HL
  go_wp2_with fail
  refine (zz_known a up _ (by omega) (by omega) true (decide_eq_true KU.out.symm)).mono ?_
  rintro e w3 ⟨rfl, b3⟩
  go_wp2_with fail
  refine (zz_known lo a _ (by omega) (by omega) true (decide_eq_true KL.out)).mono ?_
  rintro e w4 ⟨rfl, b4⟩
  go_wp2_with fail
  refine (zz_known up lo _ (by omega) (by omega) true (decide_eq_true (KU.out.trans KL.out.symm))).mono ?_
  rintro e w5 ⟨rfl, b5⟩
  have c3 := c2.trans (b3.mono c2.size)
  have c4 := c3.trans (b4.mono c3.size)
  have c5 := c4.trans (b5.mono c4.size)
  obtain ⟨D, hD⟩ : ∃ D, a ++ (⟨#[46]⟩ : ByteArray) = D := ⟨_, rfl⟩
  have hbd : bs D = bs a ++ [46] := by rw [← hD]; exact bs_dot a
  have hds : D.size ≤ 262145 := by rw [← bs_len, hbd, List.length_append, bs_len]; simp; omega
  have HD : Hid (∀ r, decide (¬ (bs a).getLast? = some 46) = r → decide (key (bs a) = key (bs D)) = r) := by
    intro r hr
    rw [← hr, hbd]
    exact decide_eq_decide.2 (key_dot_same _)
  have HDS : Hid (D.size ≤ 262145) := hds
  clear hbd
  clear hds c2 c3 c4 b3 b4 b5 KU KL
  by_cases h0 : 0 < a.size
  · have hl := last_at a h0
    by_cases h46 : (a[a.size - 1].toNat : Int) = 46
    · have hr : decide (¬ (bs a).getLast? = some 46) = false := decide_eq_false (by rw [hl, h46]; simp)
      have HK := HD.out false hr
      have hb46 : ((a[a.size - 1].toNat : Int) == 46) = true := by rw [h46]; rfl
      have HKK : Hid _ := HK
      clear hl h46 hr HK HD
      go_wp2_with fail
      refine (zz_known a D _ (by omega) HDS.out false HKK.out).mono ?_
      rintro e w6 ⟨rfl, b6⟩
      go_wp2_with fail
      go_ret
      exact ⟨rfl, c5.trans (b6.mono c5.size)⟩
    · have hr : decide (¬ (bs a).getLast? = some 46) = true := decide_eq_true (by rw [hl]; simpa using h46)
      have HK := HD.out true hr
      have hb46 : ((a[a.size - 1].toNat : Int) == 46) = false := by rw [beq_eq_false_iff_ne]; exact h46
      have HKK : Hid _ := HK
      clear hl h46 hr HK HD
      go_wp2_with fail
      refine (zz_known a D _ (by omega) HDS.out true HKK.out).mono ?_
      rintro e w6 ⟨rfl, b6⟩
      go_wp2_with fail
      go_ret
      exact ⟨rfl, c5.trans (b6.mono c5.size)⟩
  · have hn : bs a = [] := List.eq_nil_of_length_eq_zero (by rw [bs_len]; omega)
    have hr : decide (¬ (bs a).getLast? = some 46) = true := by rw [hn]; rfl
    have HK := HD.out true hr
    have HKK : Hid _ := HK
    clear hr HK HD hn
    go_wp2_with fail
    refine (zz_known a D _ (by omega) HDS.out true HKK.out).mono ?_
    rintro e w6 ⟨rfl, b6⟩
    go_wp2_with fail
    go_ret
    exact ⟨rfl, c5.trans (b6.mono c5.size)⟩
end Go.Proofs.Qxb6601968a.fnSameADNIgnoresCaseAndOneDot
