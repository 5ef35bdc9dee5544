/-
  slices.BinarySearchFunc over the program's own parameters (function 27) with its comparison (28): their contracts.
-/
import Derived.Test.Qxb6601968aRows
import Derived.WalkKit
import Derived.WalkSpells
import Derived.WalkLawsBesides
import Derived.WalkSmall
import Derived.Deep.LoopGhost
namespace Go.Proofs.Qxb6601968a.Has
open Go.RowKit

set_option maxHeartbeats 400000 in
theorem cmp_any (k t : Int) (V : Value) (w : World) (hk : 0 ≤ k ∧ k ≤ 65535) (ht : 0 ≤ t ∧ t ≤ 65535) :
    Calls Try.prog 28 #[.agg #[.int .u16 k, V], .int .u16 t] w fun e w' => e = .returned (.int .i64 (k - t)) ∧ Below w.heap.size w w' := by
  obtain ⟨hk0, hk1⟩ := hk
  obtain ⟨ht0, ht1⟩ := ht
  go_enter Try.func28, Try.ntmps28
  go_wp2
  go_ret
  exact ⟨rfl, (Below.refl _ _).alloc (Nat.le_refl _) _⟩

/-- A slice of parameters: the keys K, and some value beside each. -/
structure PRow (w : World) (a : Option Addr) (n : Nat) (K : List Int) : Prop where
  leng : K.length = n
  range : ∀ j : Nat, 0 ≤ K.getD j 0 ∧ K.getD j 0 ≤ 65535
  at_ : 0 < n → ∃ b off, a = some ⟨b, off, none⟩ ∧ b < w.heap.size ∧ (∀ j, j < n → w.cell? ⟨b, off + j * 2, none⟩ = some (.int .u16 (K.getD j 0))) ∧ ∀ j, j < n → ∃ va vl vc, w.cell? ⟨b, off + j * 2 + 1, none⟩ = some (.slice va vl vc)

theorem PRow.later {w w' : World} {a : Option Addr} {n : Nat} {K : List Int} (h : PRow w a n K) (hb : Below w.heap.size w w') : PRow w' a n K := by
  refine ⟨h.leng, h.range, fun h0 => ?_⟩
  obtain ⟨b, off, ha, hlt, hc0, hc1⟩ := h.at_ h0
  have hsz := hb.size
  refine ⟨b, off, ha, by omega, fun j hj => (hb.cell (p := ⟨b, off + j * 2, none⟩) hlt).trans (hc0 j hj), fun j hj => ?_⟩
  obtain ⟨va, vl, vc, h1⟩ := hc1 j hj
  exact ⟨va, vl, vc, (hb.cell (p := ⟨b, off + j * 2 + 1, none⟩) hlt).trans h1⟩

/-- The keys do not fall. -/
def Sorted (K : List Int) : Prop := ∀ i j : Nat, i ≤ j → j < K.length → K.getD i 0 ≤ K.getD j 0

theorem found_iff (K : List Int) (t : Int) (i : Nat) (hs : Sorted K) (hi : i < K.length) (hlo : ∀ x, x < i → K.getD x 0 < t) (hhi : ∀ x, i ≤ x → x < K.length → t ≤ K.getD x 0) : (K.getD i 0 = t) ↔ t ∈ K := by
  constructor
  · intro h
    have : K.getD i 0 = K[i] := by simp [List.getD, hi]
    rw [← h, this]
    exact List.getElem_mem hi
  · intro h
    obtain ⟨x, hx, hxe⟩ := List.mem_iff_getElem.1 h
    have e : K.getD x 0 = t := by simp [List.getD, hx, hxe]
    rcases Nat.lt_or_ge x i with h1 | h1
    · have := hlo x h1; omega
    · have h2 := hs i x h1 hx
      have h3 := hhi i (Nat.le_refl _) hi
      omega

theorem notfound (K : List Int) (t : Int) (hlo : ∀ x, x < K.length → K.getD x 0 < t) : t ∉ K := by
  intro h
  obtain ⟨x, hx, hxe⟩ := List.mem_iff_getElem.1 h
  have e : K.getD x 0 = t := by simp [List.getD, hx, hxe]
  have := hlo x hx
  omega

theorem ret_ib {i : Int} {b b' : Bool} (h : b = b') : Ending.returned (.tuple #[.int .i64 i, .bool b]) = .returned (.tuple #[.int .i64 i, .bool b']) := by rw [h]

theorem low_step {K : List Int} {t : Int} {i m n : Nat} (hs : Sorted K) (hlen : K.length = n) (hm : m < n) (_hl : ∀ x, x < i → K.getD x 0 < t) (hc : K.getD m 0 < t) : ∀ x, x < m + 1 → K.getD x 0 < t := by
  intro x hx
  have := hs x m (by omega) (by omega)
  omega

theorem high_step {K : List Int} {t : Int} {m n : Nat} (hs : Sorted K) (hlen : K.length = n) (hc : t ≤ K.getD m 0) : ∀ x, m ≤ x → x < n → t ≤ K.getD x 0 := by
  intro x hx hxn
  have := hs m x hx (by omega)
  omega

set_option maxHeartbeats 1000000 in
set_option maxRecDepth 100000 in
theorem search_any (a : Option Addr) (n cap : Nat) (K : List Int) (t : Int) (w : World) (hn : n ≤ 1048576) (h : PRow w a n K) (hs : Sorted K) (ht : 0 ≤ t ∧ t ≤ 65535) :
    Calls Try.prog 27 #[.slice a n cap, .int .u16 t, .func (.func 28) #[] #[]] w fun e w' => (∃ i, e = .returned (.tuple #[.int .i64 i, .bool (decide (t ∈ K))])) ∧ Below w.heap.size w w' := by
  go_enter Try.func27, Try.ntmps27
  go_wp2_with fail
  go_loopg [9, 10] n (fun gk iv jv wr => ∃ i j : Nat, iv = .int .i64 i ∧ jv = .int .i64 j ∧ i ≤ j ∧ j ≤ n ∧ Hid (gk = j - i) ∧ Hid (∀ x, x < i → K.getD x 0 < t) ∧ Hid (∀ x, j ≤ x → x < n → t ≤ K.getD x 0) ∧ Below w.heap.size w wr)
  case atStart => exact ⟨0, n, rfl, rfl, by omega, by omega, rfl, fun x h => absurd h (by omega), fun x h h2 => absurd h2 (by omega), Below.refl _ _⟩
  case round =>
    obtain ⟨i, j, rfl, rfl, hij, hjn, HG, HL, HH, hbel⟩ := hrel
    by_cases hlt : i < j
    · obtain ⟨b, off, rfl, hb, hc0, hc1⟩ := h.at_ (by omega)
      have hr := h.range ((i + j) / 2)
      have hmn : (i + j) / 2 < n := by omega
      have hcc0 := (hbel.cell (p := ⟨b, off + (i + j) / 2 * 2, none⟩) hb).trans (hc0 ((i + j) / 2) hmn)
      obtain ⟨va, vl, vc, hv⟩ := hc1 ((i + j) / 2) hmn
      have hcc1 := (hbel.cell (p := ⟨b, off + (i + j) / 2 * 2 + 1, none⟩) hb).trans hv
      obtain ⟨c, hc⟩ : ∃ c, c = K.getD ((i + j) / 2) 0 := ⟨_, rfl⟩
      rw [← hc] at hcc0 hr
      have HC : Hid (c = K.getD ((i + j) / 2) 0) := hc
      have hlen := h.leng
      clear hc hc0 hc1 hv h
      by_cases hct : c < t
      · have hneg : c - t < 0 := by omega
        go_wp2_with (go_at_call 28; refine (cmp_any c t _ _ hr ht).mono ?_; rintro e w2 ⟨rfl, hb2⟩)
        go_roundg (j - ((i + j) / 2 + 1))
        case measure => rw [HG.out]; omega
        case rel => exact ⟨(i + j) / 2 + 1, j, by go_num, rfl, by omega, hjn, rfl, low_step hs hlen (by omega) HL.out (by rw [← HC.out]; exact hct), HH, hbel.trans (hb2.mono hbel.size)⟩
      · have hneg : ¬ c - t < 0 := by omega
        go_wp2_with (go_at_call 28; refine (cmp_any c t _ _ hr ht).mono ?_; rintro e w2 ⟨rfl, hb2⟩)
        go_roundg ((i + j) / 2 - i)
        case measure => rw [HG.out]; omega
        case rel => exact ⟨i, (i + j) / 2, rfl, by go_num, by omega, by omega, rfl, HL, high_step hs hlen (by rw [← HC.out]; omega), hbel.trans (hb2.mono hbel.size)⟩
    · have hie : j = i := by omega
      subst hie
      by_cases hin : j < n
      · obtain ⟨b, off, rfl, hb, hc0, hc1⟩ := h.at_ (by omega)
        have hr := h.range j
        have hcc0 := (hbel.cell (p := ⟨b, off + j * 2, none⟩) hb).trans (hc0 j hin)
        obtain ⟨va, vl, vc, hv⟩ := hc1 j hin
        have hcc1 := (hbel.cell (p := ⟨b, off + j * 2 + 1, none⟩) hb).trans hv
        have hf := found_iff K t j hs (by rw [h.leng]; exact hin) HL.out (fun x h1 h2 => HH.out x h1 (by rw [← h.leng]; exact h2))
        obtain ⟨c, hc⟩ : ∃ c, c = K.getD j 0 := ⟨_, rfl⟩
        rw [← hc] at hcc0 hr hf
        have HF : Hid ((c - t == 0) = decide (t ∈ K)) := by
          show _ = _
          by_cases hct : c = t
          · rw [decide_eq_true (hf.1 hct)]; subst hct; simp
          · rw [decide_eq_false (fun hm => hct (hf.2 hm))]; rw [beq_eq_false_iff_ne]; omega
        clear hc hc0 hc1 hv h hf
        go_wp2_with (go_at_call 28; refine (cmp_any c t _ _ hr ht).mono ?_; rintro e w2 ⟨rfl, hb2⟩)
        go_ret2
        exact ⟨⟨_, ret_ib HF.out⟩, hbel.trans (hb2.mono hbel.size)⟩
      · have hnf := notfound K t (fun x hx => HL.out x (by rw [h.leng] at hx; omega))
        have HF : Hid (false = decide (t ∈ K)) := (decide_eq_false hnf).symm
        clear hnf
        go_wp2_with fail
        go_ret2
        exact ⟨⟨_, ret_ib HF.out⟩, hbel⟩
end Go.Proofs.Qxb6601968a.Has
