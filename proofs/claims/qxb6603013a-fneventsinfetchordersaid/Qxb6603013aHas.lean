/-
  (Object).has (function 25): its contract.
-/
import Derived.Test.Qxb6603013aNext
import Derived.Deep.LoopGhost
namespace Go.Proofs.Qxb6603013a.Items
open Go.RowKit

/-- What one call of next leaves, wherever the cursor stands. -/
structure Stepped (w w' : World) (b : Nat) (ks : List Int) (kk : Int) (ok : Bool) (t' : ByteArray) : Prop where
  moved : Moved w w' b t'
  size : t'.size ≤ 9223372036854775806
  what : (ks = [] ∧ ok = false) ∨ ∃ r, ks = kk :: r ∧ ok = true ∧ Chain t' r

theorem next_chain (b : Nat) (ks : List Int) (t : ByteArray) (w : World) (hs : t.size ≤ 9223372036854775806) (hch : Chain t ks) (hc : w.cell? ⟨b, 0, none⟩ = some (.string t)) (hf : w.frozen? ⟨b, 0, none⟩ = false) :
    Calls Try.prog 26 #[.pointer (some ⟨b, 0, none⟩)] w fun e w' => ∃ kk x ok t', e = .returned (.tuple #[.int .u8 kk, .string x, .bool ok]) ∧ Stepped w w' b ks kk ok t' := by
  cases ks with
  | nil =>
    refine (next_end b t w hch hc).mono ?_
    rintro e w' ⟨rfl, rfl⟩
    exact ⟨0, _, false, t, rfl, ⟨⟨World.grownBy.refl _ _, rfl, hc, hf, fun cs ty h => ⟨cs, h⟩⟩, hs, .inl ⟨rfl, rfl⟩⟩⟩
  | cons k r =>
    obtain ⟨j, hi, hr⟩ := hch
    refine (next_any b j k t w hs hi hc hf).mono ?_
    rintro e w' ⟨x, rfl, hm⟩
    exact ⟨k, x, true, t.extract j t.size, rfl, ⟨hm, by simp; omega, .inr ⟨r, rfl, rfl, hr⟩⟩⟩

theorem ret_bool {a b : Bool} (h : a = b) : Ending.returned (.bool a) = .returned (.bool b) := by rw [h]

theorem not_mem_snoc {pre : List Int} {kk kd : Int} (h : kd ∉ pre) (h2 : ¬ kk = kd) : kd ∉ pre ++ [kk] := by
  intro hm
  rcases List.mem_append.1 hm with h3 | h3
  · exact h h3
  · simp at h3; exact h2 h3.symm

set_option maxHeartbeats 1000000 in
set_option maxRecDepth 100000 in
theorem has_any (s : ByteArray) (EV : Value) (ks : List Int) (kd : Int) (w : World) (hs : s.size ≤ 9223372036854775806) (hch : Chain s ks) :
    Calls Try.prog 25 #[.agg #[.string s, EV], .int .u8 kd] w fun e w' => e = .returned (.bool (decide (kd ∈ ks))) ∧ Below w.heap.size w w' := by
  go_enter Try.func25, Try.ntmps25
  go_wp2_with fail
  have hbel0 : Below w.heap.size w ((w.alloc (Obj.cells #[Value.string s, EV] 45)).alloc (Obj.cells #[Value.string s] 53)) := ((Below.refl _ _).alloc (Nat.le_refl _) _).alloc (by simp) _
  have hc0 : ((w.alloc (Obj.cells #[Value.string s, EV] 45)).alloc (Obj.cells #[Value.string s] 53)).cell? ⟨w.heap.size + 1, 0, none⟩ = some (.string s) := by
    rw [World.cell?_alloc_at _ _ _ _ (by simp)]; rfl
  have hf0 : ((w.alloc (Obj.cells #[Value.string s, EV] 45)).alloc (Obj.cells #[Value.string s] 53)).frozen? ⟨w.heap.size + 1, 0, none⟩ = false := World.frozen?_alloc_at _ _ _ _ (by simp)
  refine (next_chain (w.heap.size + 1) ks s _ hs hch hc0 hf0).mono ?_
  rintro e w1 ⟨kk, x, ok, t', rfl, hst⟩
  have hbel1 : Below w.heap.size w w1 := hbel0.grown hst.moved.grown (by simp; omega) (fun k h => by cases h; omega)
  have hsz1 : w.heap.size + 1 < w1.heap.size := by rw [hst.moved.size]; simp
  have HST : Hid (Stepped _ w1 (w.heap.size + 1) ks kk ok t') := hst
  clear hst hbel0 hc0 hf0 hch
  go_wp2_with fail
  go_loopg [6, 8] ks.length (fun g k okv wr => ∃ (kk : Int) (ok : Bool) (t' : ByteArray) (pre rest : List Int), k = .int .u8 kk ∧ okv = .bool ok ∧ Hid (ks = pre ++ rest) ∧ Hid (kd ∉ pre) ∧ Hid (g = rest.length) ∧
      ((rest = [] ∧ ok = false) ∨ ∃ r, rest = kk :: r ∧ ok = true ∧ Chain t' r) ∧ t'.size ≤ 9223372036854775806 ∧ wr.cell? ⟨w.heap.size + 1, 0, none⟩ = some (.string t') ∧ wr.frozen? ⟨w.heap.size + 1, 0, none⟩ = false ∧ w.heap.size + 1 < wr.heap.size ∧ Below w.heap.size w wr)
  case atStart => exact ⟨kk, ok, t', [], ks, rfl, rfl, rfl, List.not_mem_nil, rfl, HST.out.what, HST.out.size, HST.out.moved.cell, HST.out.moved.frozen, hsz1, hbel1⟩
  case round =>
    obtain ⟨kk, ok, t', pre, rest, rfl, rfl, HP, HN, HG, hw, hsz, hcell, hfz, hsz2, hbel⟩ := hrel
    clear HST hbel1 hsz1
    rcases hw with ⟨rfl, rfl⟩ | ⟨r, rfl, rfl, hch⟩
    · go_wp2_with fail
      go_ret
      exact ⟨ret_bool (by have h := HP.out; rw [List.append_nil] at h; rw [h]; exact (decide_eq_false HN.out).symm), hbel⟩
    · by_cases hkk : (kk == kd) = true
      · go_wp2_with fail
        go_ret
        exact ⟨ret_bool (by rw [HP.out, WalkArith.int_eq hkk]; simp), hbel⟩
      · have hkk' : (kk == kd) = false := by simpa using hkk
        have HX := next_chain (w.heap.size + 1) r t' wr hsz hch hcell hfz
        clear hch
        go_wp2_with (go_at_call 26; refine HX.mono ?_; rintro e w2 ⟨k2, x2, ok2, t2, rfl, hst2⟩)
        go_roundg r.length
        case measure => rw [HG.out]; simp
        case rel => exact ⟨k2, ok2, t2, pre ++ [kk], r, rfl, rfl, by have h := HP.out; show ks = _; rw [h]; simp, not_mem_snoc HN.out (WalkArith.int_ne hkk'), rfl, hst2.what, hst2.size, hst2.moved.cell, hst2.moved.frozen, by rw [hst2.moved.size]; exact hsz2, hbel.grown hst2.moved.grown hbel.size (fun k h => by cases h; omega)⟩
end Go.Proofs.Qxb6603013a.Items
