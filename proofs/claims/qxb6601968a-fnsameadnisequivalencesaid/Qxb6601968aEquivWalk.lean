/-
  FnSameADNIsEquivalence (function 5): the walks.
-/
import Derived.Test.Qxb6601968aAdn
namespace Go.Proofs.Qxb6601968a.fnSameADNIsEquivalence
open Go.RowKit
open Go.Proofs.Qxb6601968a.Adn

/-- sameADN's contract where the answer is known. -/
theorem zz_yes (a b : ByteArray) (w : World) (ha : a.size ≤ 262144) (hb : b.size ≤ 262144) (h : key (bs a) = key (bs b)) :
    Calls Try.prog 14 #[.string a, .string b] w fun e w' => e = .returned (.bool true) ∧ Below w.heap.size w w' := by
  have hz := zz_any a b w (by omega) (by omega)
  rwa [decide_eq_true h] at hz
theorem zz_no (a b : ByteArray) (w : World) (ha : a.size ≤ 262144) (hb : b.size ≤ 262144) (h : ¬ key (bs a) = key (bs b)) :
    Calls Try.prog 14 #[.string a, .string b] w fun e w' => e = .returned (.bool false) ∧ Below w.heap.size w w' := by
  have hz := zz_any a b w (by omega) (by omega)
  rwa [decide_eq_false h] at hz

set_option maxHeartbeats 1000000 in
theorem walk_big (a b c : ByteArray) (w : World) (ha : a.size ≤ maxLen) (hb : b.size ≤ maxLen) (hc : c.size ≤ maxLen) (h : 262144 < a.size ∨ 262144 < b.size ∨ 262144 < c.size) :
    Calls Try.prog 5 #[.string a, .string b, .string c] w fun e w' => e = .returned (.bool true) ∧ Below w.heap.size w w' := by
  unfold maxLen at ha hb hc
  have h' : 262144 < a.size ∨ (a.size ≤ 262144 ∧ 262144 < b.size) ∨ (a.size ≤ 262144 ∧ b.size ≤ 262144 ∧ 262144 < c.size) := by omega
  rcases h' with h1 | ⟨h1, h2⟩ | ⟨h1, h2, h3⟩
  all_goals
    go_enter Try.func5, Try.ntmps5
    go_wp2
  all_goals
    go_ret
    exact ⟨rfl, Below.refl _ _⟩

set_option maxHeartbeats 1000000 in
theorem walk_in (a b c : ByteArray) (w : World) (ha : a.size ≤ 262144) (hb : b.size ≤ 262144) (hc : c.size ≤ 262144) :
    Calls Try.prog 5 #[.string a, .string b, .string c] w fun e w' => e = .returned (.bool true) ∧ Below w.heap.size w w' := by
  by_cases hab : key (bs a) = key (bs b)
  · have HAB : Hid (key (bs a) = key (bs b)) := hab
    by_cases hbc : key (bs b) = key (bs c)
    · have HBC : Hid (key (bs b) = key (bs c)) := hbc
      clear hab hbc
      go_enter Try.func5, Try.ntmps5
      go_wp2_with (go_at_call 13; go_in)
      refine (zz_yes a a _ ha ha rfl).mono ?_
      rintro e w1 ⟨rfl, b1⟩
      go_wp2_with fail
      refine (zz_yes a b _ ha hb HAB.out).mono ?_
      rintro e w2 ⟨rfl, b2⟩
      go_wp2_with fail
      refine (zz_yes b a _ hb ha HAB.out.symm).mono ?_
      rintro e w3 ⟨rfl, b3⟩
      go_wp2_with fail
      refine (zz_yes b c _ hb hc HBC.out).mono ?_
      rintro e w4 ⟨rfl, b4⟩
      go_wp2_with fail
      refine (zz_yes a c _ ha hc (HAB.out.trans HBC.out)).mono ?_
      rintro e w5 ⟨rfl, b5⟩
      go_wp2_with fail
      go_ret
      have c2 := b1.trans (b2.mono b1.size)
      have c3 := c2.trans (b3.mono c2.size)
      have c4 := c3.trans (b4.mono c3.size)
      exact ⟨rfl, c4.trans (b5.mono c4.size)⟩
    · have HBC : Hid (¬ key (bs b) = key (bs c)) := hbc
      clear hab hbc
      go_enter Try.func5, Try.ntmps5
      go_wp2_with (go_at_call 13; go_in)
      refine (zz_yes a a _ ha ha rfl).mono ?_
      rintro e w1 ⟨rfl, b1⟩
      go_wp2_with fail
      refine (zz_yes a b _ ha hb HAB.out).mono ?_
      rintro e w2 ⟨rfl, b2⟩
      go_wp2_with fail
      refine (zz_yes b a _ hb ha HAB.out.symm).mono ?_
      rintro e w3 ⟨rfl, b3⟩
      go_wp2_with fail
      refine (zz_no b c _ hb hc HBC.out).mono ?_
      rintro e w4 ⟨rfl, b4⟩
      go_wp2_with fail
      go_ret
      have c2 := b1.trans (b2.mono b1.size)
      have c3 := c2.trans (b3.mono c2.size)
      exact ⟨rfl, c3.trans (b4.mono c3.size)⟩
  · have HAB : Hid (¬ key (bs a) = key (bs b)) := hab
    clear hab
    go_enter Try.func5, Try.ntmps5
    go_wp2_with (go_at_call 13; go_in)
    refine (zz_yes a a _ ha ha rfl).mono ?_
    rintro e w1 ⟨rfl, b1⟩
    go_wp2_with fail
    refine (zz_no a b _ ha hb HAB.out).mono ?_
    rintro e w2 ⟨rfl, b2⟩
    go_wp2_with fail
    refine (zz_no b a _ hb ha (fun e => HAB.out e.symm)).mono ?_
    rintro e w3 ⟨rfl, b3⟩
    go_wp2_with fail
    go_ret
    have c2 := b1.trans (b2.mono b1.size)
    exact ⟨rfl, c2.trans (b3.mono c2.size)⟩
end Go.Proofs.Qxb6601968a.fnSameADNIsEquivalence
