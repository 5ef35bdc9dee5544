/-
  (*cursor).next (function 26): its contract.
-/
import Derived.Test.Qxb6603013aItems
import Derived.BigRegion
namespace Go.Proofs.Qxb6603013a.Items
open Go.RowKit

/-- An item of kind k, j bytes long, stands at the start of t. -/
def Itm (t : ByteArray) (k : Int) (j : Nat) : Prop :=
  0 < t.size ∧ k = (bt t 0 : Nat) ∧ 1 ≤ k ∧ k ≤ 14 ∧
    ((8 < k ∧ j = 1) ∨ (k ≤ 8 ∧ ∃ m, Cont (t.extract 1 t.size) m ∧ j = 1 + (m + 1) + vv (t.extract 1 t.size) (m + 1) ∧ j ≤ t.size))

/-- What next leaves of the world: the cursor's own cell has moved on. -/
structure Moved (w w' : World) (b : Nat) (t : ByteArray) : Prop where
  grown : w.grownBy w' (some b)
  size : w'.heap.size = w.heap.size
  cell : w'.cell? ⟨b, 0, none⟩ = some (.string t)
  frozen : w'.frozen? ⟨b, 0, none⟩ = false
  kind : ∀ cs ty, w.heap[b]? = some (.cells cs ty (0, 0)) → ∃ cs', w'.heap[b]? = some (.cells cs' ty (0, 0))

theorem moved_set {w : World} {b : Nat} {x : Value} (t : ByteArray) (hc : w.cell? ⟨b, 0, none⟩ = some x) (hf : w.frozen? ⟨b, 0, none⟩ = false) : Moved w (w.setCell ⟨b, 0, none⟩ (.string t)) b t where
  grown := ⟨rfl, rfl, rfl, by simp [World.setCell], fun k _ hk => Below.heap_setCell _ _ _ _ (fun e => hk (by simp [e]))⟩
  size := by simp [World.setCell]
  cell := World.cell?_setCell_same' _ _ _ (by rw [hc]; rfl)
  frozen := by rw [World.frozen?_setCell]; exact hf
  kind := fun cs ty h => ⟨_, heap_setCell_same w b 0 cs ty _ h⟩

theorem Moved.drew {w w' : World} {b : Nat} {t : ByteArray} (h : Moved w w' b t) : Moved w w'.drew b t := ⟨⟨h.grown.os, h.grown.tape, h.grown.output, h.grown.size, h.grown.block⟩, h.size, h.cell, h.frozen, h.kind⟩

theorem Moved.set {w w' : World} {b : Nat} {t : ByteArray} (t' : ByteArray) (h : Moved w w' b t) : Moved w (w'.setCell ⟨b, 0, none⟩ (.string t')) b t' := by
  have h2 := moved_set t' h.cell h.frozen
  exact ⟨⟨h.grown.os, h.grown.tape, h.grown.output, by rw [h2.size]; exact h.grown.size, fun k hk hne => (h2.grown.block k (by rw [h.size]; exact hk) hne).trans (h.grown.block k hk hne)⟩, h2.size.trans h.size, h2.cell, h2.frozen, fun cs ty hh => by obtain ⟨cs', h3⟩ := h.kind cs ty hh; exact h2.kind cs' ty h3⟩

set_option maxRecDepth 100000 in
theorem next_end (b : Nat) (t : ByteArray) (w : World) (h : t.size = 0) (hc : w.cell? ⟨b, 0, none⟩ = some (.string t)) :
    Calls Try.prog 26 #[.pointer (some ⟨b, 0, none⟩)] w fun e w' => e = .returned (.tuple #[.int .u8 0, .string ⟨#[]⟩, .bool false]) ∧ w' = w := by
  have h' : ((t.size : Int) == 0) = true := by simp [h]
  clear h
  go_enter Try.func26, Try.ntmps26
  go_wp2
  go_ret3
  exact ⟨rfl, rfl⟩

set_option maxHeartbeats 1000000 in
set_option maxRecDepth 100000 in
theorem next_plain (b : Nat) (t : ByteArray) (w : World) (h : 0 < t.size) (hs : t.size ≤ 9223372036854775807) (hk : 8 < bt t 0) (hc : w.cell? ⟨b, 0, none⟩ = some (.string t)) (hf : w.frozen? ⟨b, 0, none⟩ = false) :
    Calls Try.prog 26 #[.pointer (some ⟨b, 0, none⟩)] w fun e w' => e = .returned (.tuple #[.int .u8 (bt t 0 : Nat), .string ⟨#[]⟩, .bool true]) ∧ Moved w w' b (t.extract 1 t.size) := by
  have h' : ((t.size : Int) == 0) = false := by rw [beq_eq_false_iff_ne]; omega
  have hb : t[0].toNat = bt t 0 := bt_of t 0 h
  have h1 : 1 ≤ t.size := h
  go_enter Try.func26, Try.ntmps26
  go_wp2
  go_region
  all_goals go_wp2
  all_goals go_ret3
  all_goals exact ⟨rfl, (moved_set _ hc hf).drew⟩

set_option maxHeartbeats 1000000 in
set_option maxRecDepth 100000 in
theorem next_text' (b m V : Nat) (t r : ByteArray) (w : World) (h : 0 < t.size) (hs : t.size ≤ 9223372036854775807) (hk : bt t 0 ≤ 8) (hr : t.extract 1 t.size = r) (hrs : r.size ≤ 9223372036854775806)
    (HU : ∀ w, Calls Try.prog 27 #[.string r] w fun e w' => e = .returned (.tuple #[.int .i64 (V : Nat), .int .i64 ((m + 1 : Nat) : Int)]) ∧ w' = w)
    (hj : m + 1 + V ≤ r.size) (hc : w.cell? ⟨b, 0, none⟩ = some (.string t)) (hf : w.frozen? ⟨b, 0, none⟩ = false) :
    Calls Try.prog 26 #[.pointer (some ⟨b, 0, none⟩)] w fun e w' => ∃ x, e = .returned (.tuple #[.int .u8 (bt t 0 : Nat), .string x, .bool true]) ∧ Moved w w' b (r.extract (m + 1 + V) r.size) := by
  have h' : ((t.size : Int) == 0) = false := by rw [beq_eq_false_iff_ne]; omega
  have hb : t[0].toNat = bt t 0 := bt_of t 0 h
  have h1 : 1 ≤ t.size := h
  go_enter Try.func26, Try.ntmps26
  go_wp2
  go_region
  all_goals go_wp2_with (go_at_call 27; refine (HU _).mono ?_; rintro e w2 ⟨rfl, rfl⟩)
  all_goals go_region
  all_goals go_wp2
  all_goals go_ret3
  all_goals exact ⟨_, rfl, ((moved_set _ hc hf).set _).drew.drew⟩

/-- At an item. -/
theorem next_any (b j : Nat) (k : Int) (t : ByteArray) (w : World) (hs : t.size ≤ 9223372036854775806) (hi : Itm t k j) (hc : w.cell? ⟨b, 0, none⟩ = some (.string t)) (hf : w.frozen? ⟨b, 0, none⟩ = false) :
    Calls Try.prog 26 #[.pointer (some ⟨b, 0, none⟩)] w fun e w' => ∃ x, e = .returned (.tuple #[.int .u8 k, .string x, .bool true]) ∧ Moved w w' b (t.extract j t.size) := by
  obtain ⟨h0, rfl, _, _, h | ⟨hk, m, hm, rfl, hj⟩⟩ := hi
  · obtain ⟨hk, rfl⟩ := h
    refine (next_plain b t w h0 (by omega) (by omega) hc hf).mono ?_
    rintro e w' ⟨rfl, hmv⟩
    exact ⟨_, rfl, hmv⟩
  · have hsz : (t.extract 1 t.size).size = t.size - 1 := by simp
    have h := next_text' b m (vv (t.extract 1 t.size) (m + 1)) t (t.extract 1 t.size) w h0 (by omega) (by omega) rfl (by omega) (fun w => uvarint_any _ m w hm (by omega)) (by omega) hc hf
    rw [extract_twice, ← Nat.add_assoc] at h
    exact h

/-- The items of t, one after the other: their kinds. -/
def Chain : ByteArray → List Int → Prop
  | t, [] => t.size = 0
  | t, k :: ks => ∃ j, Itm t k j ∧ Chain (t.extract j t.size) ks
end Go.Proofs.Qxb6603013a.Items
