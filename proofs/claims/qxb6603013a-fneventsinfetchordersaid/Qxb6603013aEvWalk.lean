/-
  FnEventsInFetchOrder (function 7): the walk.
-/
import Derived.Test.Qxb6603013aEvents
import Derived.Deep.QuietTactic
import Derived.BigQuiet
namespace Go.Proofs.Qxb6603013a.Ev
open Go.RowKit
open Go.Proofs.Qxb6603013a.Items (Chain evs)

theorem EvRow.later {w w' : World} {a : Option Addr} {len cap : Nat} {es : List (ByteArray × ByteArray)} (h : EvRow w a len cap es) (hb : Below w.heap.size w w') : EvRow w' a len cap es := by
  refine ⟨h.nil, h.leng, fun h0 => ?_⟩
  obtain ⟨b, off, ha, hlt, hc0, hc1⟩ := h.at_ h0
  have hsz := hb.size
  exact ⟨b, off, ha, by omega, fun j hj => (hb.cell (p := ⟨b, off + j * 2, none⟩) hlt).trans (hc0 j hj), fun j hj => (hb.cell (p := ⟨b, off + j * 2 + 1, none⟩) hlt).trans (hc1 j hj)⟩

/-- A slice of bytes, of the call's own or none. -/
structure KRow (w : World) (va : Option Addr) (n : Nat) (K : List Int) : Prop where
  leng : K.length = n
  at_ : 0 < n → ∃ g, va = some ⟨g, 0, none⟩ ∧ g < w.heap.size ∧ ∀ j, j < n → w.cell? ⟨g, j, none⟩ = some (.int .u8 (K.getD j 0))

theorem krow_of {w : World} {base : Nat} {v : Value} {K : List Int} (h : w.ownsRow base 5 1 v K.length (K.map (Value.int .u8))) : ∃ va vc, v = .slice va K.length vc ∧ KRow w va K.length K := by
  have h2 := h.2
  rcases h2 with ⟨rfl, h0⟩ | ⟨g, cap, cur, rfl, _, _, _⟩
  · exact ⟨none, 0, by rw [h0], ⟨rfl, fun h => absurd h (by omega)⟩⟩
  · refine ⟨_, _, rfl, ⟨rfl, fun _ => ⟨g, rfl, (h.lt g rfl).2, fun j hj => ?_⟩⟩⟩
    rw [h.cellAt j (by omega)]
    simp [hj]

theorem KRow.later {w w' : World} {va : Option Addr} {n : Nat} {K : List Int} (h : KRow w va n K) (hb : Below w.heap.size w w') : KRow w' va n K := by
  refine ⟨h.leng, fun h0 => ?_⟩
  obtain ⟨g, ha, hlt, hc⟩ := h.at_ h0
  have hsz := hb.size
  exact ⟨g, ha, by omega, fun j hj => (hb.cell (p := ⟨g, j, none⟩) hlt).trans (hc j hj)⟩

theorem Got.later {w w' : World} {x : Addr} {n : Nat} {os : List (ByteArray × ByteArray)} (h : Got w x n os) (hb : Below w.heap.size w w') : Got w' x n os := by
  refine ⟨h.leng, fun h0 => ?_⟩
  obtain ⟨g, ha, hlt, hc0, hc1⟩ := h.at_ h0
  have hsz := hb.size
  exact ⟨g, ha, by omega, fun j hj => (hb.cell (p := ⟨g, j * 2, none⟩) hlt).trans (hc0 j hj), fun j hj => (hb.cell (p := ⟨g, j * 2 + 1, none⟩) hlt).trans (hc1 j hj)⟩

set_option maxHeartbeats 400000 in
theorem obj_any (s : ByteArray) (ea : Option Addr) (len cap : Nat) (w : World) :
    Calls Try.prog 20 #[.string s, .slice ea len cap] w fun e w' => e = .returned (.agg #[.string s, .slice ea len cap]) ∧ Below w.heap.size w w' := by
  go_enter Try.func20, Try.ntmps20
  go_wp2
  refine bodyPost_ret (v := .agg #[.string s, .slice ea len cap]) (by simp [results, Try.results20, go_sem]) rfl ⟨rfl, ?_⟩
  exact (Below.refl _ _).alloc (Nat.le_refl _) _

theorem c13_take (K : List Int) (k : Nat) (h : k < K.length) : c13 (K.take (k + 1)) = c13 (K.take k) + if K.getD k 0 = 13 then 1 else 0 := by
  rw [List.take_succ_eq_append_getElem h, c13_snoc]
  simp [List.getD, h]

theorem c13_take_le (K : List Int) (k : Nat) : c13 (K.take k) ≤ k := by
  have h1 : c13 (K.take k) ≤ (K.take k).length := List.length_filter_le _ _
  have h2 : (K.take k).length ≤ k := List.length_take_le _ _
  omega

theorem c13_take_le' (K : List Int) (k : Nat) : c13 (K.take k) ≤ c13 K := by
  have h : c13 K = c13 (K.take k) + c13 (K.drop k) := by rw [← c13_append, List.take_append_drop]
  omega

theorem outs_at (K : List Int) (es : List (ByteArray × ByteArray)) (k : Nat) (h : k < K.length) : (outs K es).getD k (⟨#[]⟩, ⟨#[]⟩) = if K.getD k 0 = 13 then es.getD (c13 (K.take k)) (⟨#[]⟩, ⟨#[]⟩) else (⟨#[]⟩, ⟨#[]⟩) := by
  induction K generalizing es k with
  | nil => simp at h
  | cons a l ih =>
    by_cases ha : a = 13
    · subst ha
      cases k with
      | zero => cases es <;> simp [outs, c13]
      | succ k =>
        have e : c13 ((13 :: l).take (k + 1)) = c13 (l.take k) + 1 := by rw [List.take_succ_cons, c13_cons13]
        have h' : k < l.length := by simpa using h
        simp only [outs, if_true, e]
        have := ih es.tail k h'
        simp only [List.getD_cons_succ]
        rw [this]
        cases es <;> simp
    · cases k with
      | zero => simp [outs, ha]
      | succ k =>
        have e : c13 ((a :: l).take (k + 1)) = c13 (l.take k) := by rw [List.take_succ_cons]; simp [c13, ha]
        have h' : k < l.length := by simpa using h
        simp only [outs, if_neg ha, e, List.getD_cons_succ]
        exact ih es k h'

theorem evs_kind (ks : List Int) (k : Nat) (h : k < (evs ks).length) : (evs ks).getD k 0 = 13 ∨ (evs ks).getD k 0 = 14 := by
  have hm : (evs ks)[k] ∈ evs ks := List.getElem_mem h
  have e : (evs ks).getD k 0 = (evs ks)[k] := by simp [List.getD, h]
  rw [e]
  unfold evs at hm ⊢
  have h2 := List.mem_filter.1 hm
  simpa using h2.2
end Go.Proofs.Qxb6603013a.Ev
