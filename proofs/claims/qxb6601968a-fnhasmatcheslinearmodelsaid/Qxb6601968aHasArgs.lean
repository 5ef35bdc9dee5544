/-
  What FnHasMatchesLinearModel is handed, as the walk reads it; zzBytes_FnHasMatchesLinearModel (function 18).
-/
import Derived.Test.Qxb6601968aHasCalls
namespace Go.Proofs.Qxb6601968a.Has
open Go.RowKit

/-- A slice of keys that came in. -/
structure MRow (w : World) (a : Option Addr) (n : Nat) : Prop where
  nil : a = none → n = 0
  at_ : 0 < n → ∃ b off, a = some ⟨b, off, none⟩ ∧ b < w.heap.size ∧ ∀ j, j < n → ∃ z, w.cell? ⟨b, off + j, none⟩ = some (.int .u16 z)

/-- A slice of strings that came in. -/
structure SRow (w : World) (a : Option Addr) (n : Nat) : Prop where
  nil : a = none → n = 0
  at_ : 0 < n → ∃ b off, a = some ⟨b, off, none⟩ ∧ b < w.heap.size ∧ ∀ j, j < n → ∃ s, w.cell? ⟨b, off + j, none⟩ = some (.string s)

/-- A slice of bytes in a cell that came in. -/
structure VRow (w : World) (a : Option Addr) (n : Nat) : Prop where
  nil : a = none → n = 0
  max : n ≤ maxLen
  at_ : 0 < n → ∃ b off, a = some ⟨b, off, none⟩ ∧ b < w.heap.size ∧ ∀ j, j < n → ∃ z, w.cell? ⟨b, off + j, none⟩ = some (.int .u8 z)

/-- A slice of parameters that came in: the keys K, the values V. -/
structure ORow (w : World) (a : Option Addr) (n : Nat) (K : List Int) (V : Nat → Option Addr × Nat × Nat) : Prop where
  nil : a = none → n = 0
  leng : K.length = n
  range : ∀ j : Nat, 0 ≤ K.getD j 0 ∧ K.getD j 0 ≤ 65535
  at_ : 0 < n → ∃ b off, a = some ⟨b, off, none⟩ ∧ b < w.heap.size ∧ (∀ j, j < n → w.cell? ⟨b, off + j * 2, none⟩ = some (.int .u16 (K.getD j 0))) ∧ ∀ j, j < n → w.cell? ⟨b, off + j * 2 + 1, none⟩ = some (.slice (V j).1 (V j).2.1 (V j).2.2)
  vals : ∀ j, j < n → VRow w (V j).1 (V j).2.1

theorem MRow.later {w w' : World} {a : Option Addr} {n : Nat} (h : MRow w a n) (hb : Below w.heap.size w w') : MRow w' a n := by
  refine ⟨h.nil, fun h0 => ?_⟩
  obtain ⟨b, off, ha, hlt, hc⟩ := h.at_ h0
  have hsz := hb.size
  refine ⟨b, off, ha, by omega, fun j hj => ?_⟩
  obtain ⟨z, hz⟩ := hc j hj
  exact ⟨z, (hb.cell (p := ⟨b, off + j, none⟩) hlt).trans hz⟩

theorem SRow.later {w w' : World} {a : Option Addr} {n : Nat} (h : SRow w a n) (hb : Below w.heap.size w w') : SRow w' a n := by
  refine ⟨h.nil, fun h0 => ?_⟩
  obtain ⟨b, off, ha, hlt, hc⟩ := h.at_ h0
  have hsz := hb.size
  refine ⟨b, off, ha, by omega, fun j hj => ?_⟩
  obtain ⟨z, hz⟩ := hc j hj
  exact ⟨z, (hb.cell (p := ⟨b, off + j, none⟩) hlt).trans hz⟩

theorem VRow.later {w w' : World} {a : Option Addr} {n : Nat} (h : VRow w a n) (hb : Below w.heap.size w w') : VRow w' a n := by
  refine ⟨h.nil, h.max, fun h0 => ?_⟩
  obtain ⟨b, off, ha, hlt, hc⟩ := h.at_ h0
  have hsz := hb.size
  refine ⟨b, off, ha, by omega, fun j hj => ?_⟩
  obtain ⟨z, hz⟩ := hc j hj
  exact ⟨z, (hb.cell (p := ⟨b, off + j, none⟩) hlt).trans hz⟩

theorem ORow.later {w w' : World} {a : Option Addr} {n : Nat} {K : List Int} {V : Nat → Option Addr × Nat × Nat} (h : ORow w a n K V) (hb : Below w.heap.size w w') : ORow w' a n K V := by
  refine ⟨h.nil, h.leng, h.range, fun h0 => ?_, fun j hj => (h.vals j hj).later hb⟩
  obtain ⟨b, off, ha, hlt, hc0, hc1⟩ := h.at_ h0
  have hsz := hb.size
  exact ⟨b, off, ha, by omega, fun j hj => (hb.cell (p := ⟨b, off + j * 2, none⟩) hlt).trans (hc0 j hj), fun j hj => (hb.cell (p := ⟨b, off + j * 2 + 1, none⟩) hlt).trans (hc1 j hj)⟩

/-- A call ended with a bool; if it is true, Q. -/
def BoolW (Q : Prop) (e : Ending) : Prop := ∃ bb, e = .returned (.bool bb) ∧ (bb = true → Q)

theorem boolW_no {Q : Prop} : BoolW Q (.returned (.bool false)) := ⟨false, rfl, fun h => by cases h⟩

set_option maxHeartbeats 2000000 in
set_option maxRecDepth 100000 in
theorem bytes_any (a0 a1 a6 : Option Addr) (l0 c0 l1 c1 l6 c6 : Nat) (nd hp : Bool) (port key : Int) (dp : ByteArray) (K : List Int) (V : Nat → Option Addr × Nat × Nat) (w : World)
    (h0 : l0 ≤ maxLen) (h1 : l1 ≤ maxLen) (h6 : l6 ≤ maxLen) (_hd : dp.size ≤ maxLen) (hs : SRow w a1 l1) (ho : ORow w a6 l6 K V) :
    Calls Try.prog 18 #[.slice a0 l0 c0, .slice a1 l1 c1, .bool nd, .int .u16 port, .bool hp, .string dp, .slice a6 l6 c6, .int .u16 key] w fun e w' => BoolW (∀ j, j < l6 → (V j).2.1 ≤ 1048576) e ∧ w' = w := by
  unfold maxLen at h0 h1 h6 _hd
  go_enter Try.func18, Try.ntmps18
  go_wp2_with fail
  all_goals first
    | (go_ret; exact ⟨boolW_no, rfl⟩)
    | skip
  go_loopg [17, 18] l1 (fun gk z i wr => ∃ (k : Nat) (Z : Int), k ≤ l1 ∧ Hid (gk = l1 - k) ∧ i = .int .i64 k ∧ z = .int .i64 Z ∧ w = wr)
  case atStart => exact ⟨0, _, Nat.zero_le _, rfl, rfl, rfl, rfl⟩
  case round =>
    obtain ⟨k, Z, hk, HG, rfl, rfl, rfl⟩ := hrel
    by_cases hlt : k < l1
    · obtain ⟨b, off, rfl, hb, hc⟩ := hs.at_ (by omega)
      obtain ⟨str, hcell⟩ := hc k hlt
      clear hc hs ho
      go_wp2_with fail
      all_goals first
        | (go_ret; exact ⟨boolW_no, rfl⟩)
        | (go_roundg (l1 - (k + 1))
           case measure => rw [HG.out]; omega
           case rel => exact ⟨k + 1, _, by omega, rfl, by go_num, rfl, rfl⟩)
    · clear hs
      go_wp2_with fail
      all_goals first
        | (go_ret; exact ⟨boolW_no, rfl⟩)
        | skip
      go_loopg [17, 19] l6 (fun gk z i wr => ∃ (k : Nat) (Z : Int), k ≤ l6 ∧ Hid (gk = l6 - k) ∧ i = .int .i64 k ∧ z = .int .i64 Z ∧ Hid (∀ j, j < k → (V j).2.1 ≤ 1048576) ∧ w = wr)
      case atStart => exact ⟨0, _, Nat.zero_le _, rfl, rfl, rfl, fun j h => absurd h (by omega), rfl⟩
      case round =>
        obtain ⟨m, Z', hm, HG', rfl, rfl, HV, rfl⟩ := hrel
        by_cases hlt' : m < l6
        · obtain ⟨b, off, rfl, hb, hc0, hc1⟩ := ho.at_ (by omega)
          have hcell := hc1 m hlt'
          have hmx := (ho.vals m hlt').max
          rcases hV : V m with ⟨va, vl, vc⟩
          rw [hV] at hcell hmx
          simp only at hcell hmx
          unfold maxLen at hmx
          by_cases hvl : vl ≤ 1048576
          · have hst : ∀ j, j < m + 1 → (V j).2.1 ≤ 1048576 := fun j hj => by
              rcases Nat.lt_or_ge j m with h | h
              · exact HV.out j h
              · have : j = m := by omega
                subst this; rw [hV]; exact hvl
            have HST : Hid _ := hst
            clear hst hc0 hc1 ho hV
            go_wp2_with fail
            all_goals first
              | (go_ret; exact ⟨boolW_no, rfl⟩)
              | (go_roundg (l6 - (m + 1))
                 case measure => rw [HG'.out]; omega
                 case rel => exact ⟨m + 1, _, by omega, rfl, by go_num, rfl, HST.out, rfl⟩)
          · clear hc0 hc1 ho hV
            go_wp2_with fail
            all_goals (go_ret; exact ⟨boolW_no, rfl⟩)
        · have hall : ∀ j, j < l6 → (V j).2.1 ≤ 1048576 := fun j hj => HV.out j (by omega)
          have HALL : Hid _ := hall
          clear hall ho
          go_wp2_with fail
          go_ret
          exact ⟨⟨true, rfl, fun _ => HALL.out⟩, rfl⟩
end Go.Proofs.Qxb6601968a.Has
