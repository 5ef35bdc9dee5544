/-
  cloneZEvents (function 19): its contract.
-/
import Derived.Test.Qxb6603013aRows
import Derived.WalkKit
import Derived.WalkSpells
import Derived.WalkLawsBesides
namespace Go.Proofs.Qxb6603013a.Ev
open Go.RowKit

theorem info37 : (Try.prog.info? 37).map (fun i => (i.zero, i.size, i.bytes)) = some (some (.agg #[.string ⟨#[]⟩, .string ⟨#[]⟩]), 2, 32) := by kernel_rfl
theorem info43 : (Try.prog.info? 43).map (fun i => (i.zero, i.size, i.bytes)) = some (some (.agg #[.string ⟨#[]⟩, .string ⟨#[]⟩]), 2, 32) := by kernel_rfl

/-- The cells of a list of events. -/
def flat : List (ByteArray × ByteArray) → List Value
  | [] => []
  | e :: es => .string e.1 :: .string e.2 :: flat es

theorem flat_len (es : List (ByteArray × ByteArray)) : (flat es).length = es.length * 2 := by
  induction es with
  | nil => rfl
  | cons e es ih => simp only [flat, List.length_cons, ih]; omega

theorem flat_append (es fs : List (ByteArray × ByteArray)) : flat (es ++ fs) = flat es ++ flat fs := by
  induction es with
  | nil => rfl
  | cons e es ih => simp only [List.cons_append, flat, ih]

theorem flat_fst (es : List (ByteArray × ByteArray)) (j : Nat) (h : j < es.length) : (flat es)[j * 2]? = some (.string (es.getD j (⟨#[]⟩, ⟨#[]⟩)).1) := by
  induction es generalizing j with
  | nil => simp at h
  | cons e es ih =>
    cases j with
    | zero => rfl
    | succ j =>
      have h' : j < es.length := by simpa using h
      have e1 : (j + 1) * 2 = j * 2 + 1 + 1 := by omega
      rw [e1]
      simp only [flat, List.getElem?_cons_succ, ih j h']
      rfl

theorem flat_snd (es : List (ByteArray × ByteArray)) (j : Nat) (h : j < es.length) : (flat es)[j * 2 + 1]? = some (.string (es.getD j (⟨#[]⟩, ⟨#[]⟩)).2) := by
  induction es generalizing j with
  | nil => simp at h
  | cons e es ih =>
    cases j with
    | zero => rfl
    | succ j =>
      have h' : j < es.length := by simpa using h
      have e1 : (j + 1) * 2 + 1 = j * 2 + 1 + 1 + 1 := by omega
      rw [e1]
      simp only [flat, List.getElem?_cons_succ, ih j h']
      rfl

/-- What is copied so far, and empty events behind it. -/
def part (es : List (ByteArray × ByteArray)) (k n : Nat) : List Value := flat (es.take k) ++ List.replicate ((n - k) * 2) (.string ⟨#[]⟩)

theorem made_two (z : Value) (n : Nat) : (madeCells #[z, z] n).toList = List.replicate n z := by
  apply List.ext_getElem?
  intro j
  by_cases hj : j < n
  · have h2 : j % 2 = 0 ∨ j % 2 = 1 := by omega
    rcases h2 with h | h <;> simp [madeCells, hj, h]
  · simp [madeCells, hj]

theorem part_zero (es : List (ByteArray × ByteArray)) (n : Nat) : (madeCells #[Value.string ⟨#[]⟩, .string ⟨#[]⟩] (n * 2)).toList = part es 0 n := by
  rw [made_two]
  simp [part, flat]

theorem part_full (es : List (ByteArray × ByteArray)) (n : Nat) (h : es.length = n) : part es n n = flat es := by
  unfold part
  rw [List.take_of_length_le (by omega)]
  simp

theorem part_set (es : List (ByteArray × ByteArray)) (k n : Nat) (hk : k < n) (hn : es.length = n) (hk' : k < es.length) :
    ((part es k n).set (k * 2) (.string es[k].1)).set (k * 2 + 1) (.string es[k].2) = part es (k + 1) n := by
  have hl : (flat (es.take k)).length = k * 2 := by rw [flat_len]; simp; omega
  have hr : List.replicate ((n - k) * 2) (Value.string ⟨#[]⟩) = .string ⟨#[]⟩ :: .string ⟨#[]⟩ :: List.replicate ((n - (k + 1)) * 2) (.string ⟨#[]⟩) := by
    have e : (n - k) * 2 = (n - (k + 1)) * 2 + 1 + 1 := by omega
    rw [e, List.replicate_succ, List.replicate_succ]
  unfold part
  rw [hr, List.take_succ_eq_append_getElem hk', flat_append, ← hl, List.set_append_right _ _ (Nat.le_refl _), List.set_append_right _ _ (by omega)]
  simp [flat]

set_option maxHeartbeats 400000 in
theorem clone_some (b off len cap : Nat) (es : List (ByteArray × ByteArray)) (w : World) (hl : len ≤ 65536) (hz : es.length = len) (hb : b < w.heap.size)
    (hc0 : ∀ j, j < len → w.cell? ⟨b, off + j * 2, none⟩ = some (.string (es.getD j (⟨#[]⟩, ⟨#[]⟩)).1))
    (hc1 : ∀ j, j < len → w.cell? ⟨b, off + j * 2 + 1, none⟩ = some (.string (es.getD j (⟨#[]⟩, ⟨#[]⟩)).2)) :
    Calls Try.prog 19 #[.slice (some ⟨b, off, none⟩) len cap] w fun e w' =>
      e = .returned (.slice (some ⟨w.heap.size, 0, none⟩) len len) ∧ w'.ownsRow w.heap.size 37 2 (.slice (some ⟨w.heap.size, 0, none⟩) len len) len (flat es) ∧ Below w.heap.size w w' := by
  have q34 : ∀ (w : World) (a : Option Addr) (n c n' c' : Nat), (binOp .eql 34 (.slice a n c) (.slice none n' c')).run Try.prog w = .ok (.bool a.isNone) w := fun w a n c n' c' => Lib.run_eql_slice_nil w _ _ a n c n' c' Try.underlying34
  obtain ⟨i0, hi, hz0, hz1, hz2⟩ := info_parts info37
  go_enter Try.func19, Try.ntmps19
  go_wp2_with (at_make; refine wpList_make_full _ rfl _ _ 34 rfl w.heap.size 37 i0 (.agg #[.string ⟨#[]⟩, .string ⟨#[]⟩]) 2 Try.underlying34 hi hz0 hz1 _ _ _ _ len rfl rfl rfl rfl ?b2 ?b3 (Nat.le_refl _) ?_)
  case b2 => rw [hz2]; omega
  case b3 => unfold maxLen; omega
  intro w0 hown0 hgrow0
  rw [part_zero es len] at hown0
  go_wp2
  go_loopw [4] (fun i wr => ∃ k : Nat, k ≤ len ∧ i = .int .i64 k ∧ wr.ownsRow w.heap.size 37 2 (.slice (some ⟨w.heap.size, 0, none⟩) len len) len (part es k len) ∧ Below w.heap.size w wr) (fun i _ => len - (intOf i).toNat)
  case atStart => exact ⟨0, Nat.zero_le _, rfl, hown0, (Below.refl _ _).grown hgrow0 (Nat.le_refl _) (fun k h => by cases h)⟩
  case round =>
    obtain ⟨k, hk, rfl, hown, hbel⟩ := hrel
    by_cases hlt : k < len
    · have hcell0 := (hbel.cell hb (p := ⟨b, off + k * 2, none⟩)).trans (hc0 k hlt)
      have hcell1 := (hbel.cell hb (p := ⟨b, off + k * 2 + 1, none⟩)).trans (hc1 k hlt)
      have hfz0 := hown.frozenAt (k * 2)
      have hfz1 := hown.frozenAt (k * 2 + 1)
      have hxl := hown.1
      obtain ⟨v0, hcc0⟩ : ∃ v, wr.cell? ⟨w.heap.size, k * 2, none⟩ = some v := by
        rw [hown.cellAt (k * 2) (by omega)]
        exact ⟨_, List.getElem?_eq_getElem (by omega)⟩
      obtain ⟨v1, hcc1⟩ : ∃ v, wr.cell? ⟨w.heap.size, k * 2 + 1, none⟩ = some v := by
        rw [hown.cellAt (k * 2 + 1) (by omega)]
        exact ⟨_, List.getElem?_eq_getElem (by omega)⟩
      have hke : k < es.length := by omega
      have hst0 := hown.stored (k * 2) (.string es[k].1)
      have hst1 := hst0.1.stored (k * 2 + 1) (.string es[k].2)
      rw [part_set es k len hlt hz hke] at hst1
      clear hxl hown hown0
      go_wp2
      go_roundw
      case rel => exact ⟨k + 1, by omega, by go_num, hst1.1, (hbel.setCell (p := ⟨w.heap.size, k * 2, none⟩) (Nat.le_refl _) _).setCell (p := ⟨w.heap.size, k * 2 + 1, none⟩) (Nat.le_refl _) _⟩
      case measure => simp [intOf]; omega
    · have hkl : k = len := by omega
      subst hkl
      clear hown0
      go_wp2
      go_ret
      exact ⟨rfl, by rw [part_full es k hz] at hown; exact hown, hbel⟩

theorem clone_nil (w : World) : Calls Try.prog 19 #[.slice none 0 0] w fun e w' => e = .returned (.slice none 0 0) ∧ w' = w := by
  have q34 : ∀ (w : World) (a : Option Addr) (n c n' c' : Nat), (binOp .eql 34 (.slice a n c) (.slice none n' c')).run Try.prog w = .ok (.bool a.isNone) w := fun w a n c n' c' => Lib.run_eql_slice_nil w _ _ a n c n' c' Try.underlying34
  go_enter Try.func19, Try.ntmps19
  go_wp2
  go_ret
  exact ⟨rfl, rfl⟩

set_option maxHeartbeats 400000 in
/-- A slice of length 0 that is not nil. -/
theorem clone_empty (x : Addr) (cap : Nat) (w : World) :
    Calls Try.prog 19 #[.slice (some x) 0 cap] w fun e w' => e = .returned (.slice (some ⟨w.heap.size, 0, none⟩) 0 0) ∧ Below w.heap.size w w' ∧ w.heap.size < w'.heap.size := by
  have q34 : ∀ (w : World) (a : Option Addr) (n c n' c' : Nat), (binOp .eql 34 (.slice a n c) (.slice none n' c')).run Try.prog w = .ok (.bool a.isNone) w := fun w a n c n' c' => Lib.run_eql_slice_nil w _ _ a n c n' c' Try.underlying34
  obtain ⟨i0, hi, hz0, hz1, hz2⟩ := info_parts info37
  go_enter Try.func19, Try.ntmps19
  go_wp2_with (at_make; refine wpList_make_full _ rfl _ _ 34 rfl w.heap.size 37 i0 (.agg #[.string ⟨#[]⟩, .string ⟨#[]⟩]) 2 Try.underlying34 hi hz0 hz1 _ _ _ _ 0 rfl rfl rfl rfl ?b2 ?b3 (Nat.le_refl _) ?_)
  case b2 => rw [hz2]; omega
  case b3 => unfold maxLen; omega
  intro w0 hown0 hgrow0
  have hlt := (hown0.lt w.heap.size rfl).2
  go_wp2
  refine wp_loop_rounds 1 ?_
  rw [rounds_succ]
  go_wp2
  go_ret
  exact ⟨rfl, (Below.refl _ _).grown hgrow0 (Nat.le_refl _) (fun k h => by cases h), hlt⟩

/-- A slice of events that came in. -/
structure EvRow (w : World) (a : Option Addr) (len cap : Nat) (es : List (ByteArray × ByteArray)) : Prop where
  nil : a = none → len = 0 ∧ cap = 0
  leng : es.length = len
  at_ : 0 < len → ∃ b off, a = some ⟨b, off, none⟩ ∧ b < w.heap.size ∧ (∀ j, j < len → w.cell? ⟨b, off + j * 2, none⟩ = some (.string (es.getD j (⟨#[]⟩, ⟨#[]⟩)).1)) ∧ ∀ j, j < len → w.cell? ⟨b, off + j * 2 + 1, none⟩ = some (.string (es.getD j (⟨#[]⟩, ⟨#[]⟩)).2)

/-- What the clone is. -/
structure Copied (w w1 : World) (a ta : Option Addr) (len : Nat) (es : List (ByteArray × ByteArray)) : Prop where
  nil : a = none → ta = none
  addr : a ≠ none → ta = some ⟨w.heap.size, 0, none⟩
  size : a ≠ none → w.heap.size < w1.heap.size
  cell0 : ∀ j, j < len → w1.cell? ⟨w.heap.size, j * 2, none⟩ = some (.string (es.getD j (⟨#[]⟩, ⟨#[]⟩)).1)
  cell1 : ∀ j, j < len → w1.cell? ⟨w.heap.size, j * 2 + 1, none⟩ = some (.string (es.getD j (⟨#[]⟩, ⟨#[]⟩)).2)
  below : Below w.heap.size w w1

theorem clone_row (a : Option Addr) (len cap : Nat) (es : List (ByteArray × ByteArray)) (w : World) (h : EvRow w a len cap es) (hl : len ≤ 65536) :
    Calls Try.prog 19 #[.slice a len cap] w fun e w1 => ∃ ta, e = .returned (.slice ta len len) ∧ Copied w w1 a ta len es := by
  cases a with
  | none =>
    obtain ⟨rfl, rfl⟩ := h.nil rfl
    refine (clone_nil w).mono ?_
    rintro e w1 ⟨rfl, rfl⟩
    exact ⟨none, rfl, ⟨fun _ => rfl, fun h => absurd rfl h, fun h => absurd rfl h, fun j h => absurd h (by omega), fun j h => absurd h (by omega), Below.refl _ _⟩⟩
  | some x =>
    by_cases h0 : len = 0
    · subst h0
      refine (clone_empty x cap w).mono ?_
      rintro e w1 ⟨rfl, hb, hlt⟩
      exact ⟨_, rfl, ⟨(fun h => by cases h), fun _ => rfl, fun _ => hlt, fun j h => absurd h (by omega), fun j h => absurd h (by omega), hb⟩⟩
    · obtain ⟨b, off, hx, hb, hc0, hc1⟩ := h.at_ (by omega)
      cases hx
      refine (clone_some b off len cap es w hl h.leng hb hc0 hc1).mono ?_
      rintro e w1 ⟨rfl, hown, hbel⟩
      have hcell0 : ∀ j, j < len → w1.cell? ⟨w.heap.size, j * 2, none⟩ = some (.string (es.getD j (⟨#[]⟩, ⟨#[]⟩)).1) := fun j hj => by
        rw [hown.cellAt (j * 2) (by omega), flat_fst es j (by rw [h.leng]; exact hj)]
      have hcell1 : ∀ j, j < len → w1.cell? ⟨w.heap.size, j * 2 + 1, none⟩ = some (.string (es.getD j (⟨#[]⟩, ⟨#[]⟩)).2) := fun j hj => by
        rw [hown.cellAt (j * 2 + 1) (by omega), flat_snd es j (by rw [h.leng]; exact hj)]
      exact ⟨_, rfl, ⟨(fun h => by cases h), fun _ => rfl, fun _ => (hown.lt w.heap.size rfl).2, hcell0, hcell1, hbel⟩⟩

/-- A call ended with some bool. -/
def IsBool (e : Ending) : Prop := ∃ bb, e = .returned (.bool bb)

set_option maxHeartbeats 1000000 in
/-- zzBytes_FnEventsInFetchOrder (function 17): it answers. -/
theorem bytes_any (s : ByteArray) (a : Option Addr) (len cap : Nat) (es : List (ByteArray × ByteArray)) (w : World) (hs : s.size ≤ maxLen) (hlen : len ≤ maxLen) (h : EvRow w a len cap es) :
    Calls Try.prog 17 #[.string s, .slice a len cap] w fun e w' => IsBool e ∧ w' = w := by
  unfold maxLen at hs hlen
  by_cases h0 : len = 0
  · subst h0
    go_enter Try.func17, Try.ntmps17
    go_wp2
    all_goals first
      | (go_ret; exact ⟨⟨_, rfl⟩, rfl⟩)
      | (refine wp_loop_rounds 1 ?_; rw [rounds_succ]; go_wp2; go_ret; exact ⟨⟨_, rfl⟩, rfl⟩)
  · obtain ⟨b, off, rfl, hb, hc0, hc1⟩ := h.at_ (by omega)
    have hle := h.leng
    go_enter Try.func17, Try.ntmps17
    go_wp2
    all_goals first
      | (go_ret; exact ⟨⟨_, rfl⟩, rfl⟩)
      | skip
    go_loop [5, 6] (fun z i => ∃ (k : Nat) (Z : Int), k ≤ len ∧ i = .int .i64 k ∧ z = .int .i64 Z) (fun _ i => len - (intOf i).toNat)
    case atStart => exact ⟨0, _, Nat.zero_le _, rfl, rfl⟩
    case round =>
      obtain ⟨k, Z, hk, rfl, rfl⟩ := hrel
      by_cases hlt : k < len
      · have hcell0 := hc0 k hlt
        have hcell1 := hc1 k hlt
        have hke : k < es.length := by omega
        clear hle hc0 hc1 h
        go_wp2
        all_goals first
          | (go_ret; exact ⟨⟨_, rfl⟩, rfl⟩)
          | (go_round
             case rel => exact ⟨k + 1, _, by omega, by go_num, rfl⟩
             case measure => simp [intOf]; omega)
      · go_wp2
        go_ret
        exact ⟨⟨_, rfl⟩, rfl⟩
end Go.Proofs.Qxb6603013a.Ev
