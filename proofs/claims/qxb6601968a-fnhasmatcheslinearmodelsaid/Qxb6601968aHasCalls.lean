/-
  (*SvcParams).has, ZZHas and modelHas (functions 23, 19, 20): their contracts.
-/
import Derived.Test.Qxb6601968aSearch
namespace Go.Proofs.Qxb6601968a.Has
open Go.RowKit

/-- The cells of a SvcParams. -/
structure SP (w : World) (P : Nat) (ma aa pa : Option Addr) (ml mc al ac n pc : Nat) (nd hp : Bool) (port : Int) (dp : ByteArray) : Prop where
  c0 : w.cell? ⟨P, 0, none⟩ = some (.slice ma ml mc)
  c1 : w.cell? ⟨P, 1, none⟩ = some (.slice aa al ac)
  c2 : w.cell? ⟨P, 2, none⟩ = some (.bool nd)
  c4 : w.cell? ⟨P, 4, none⟩ = some (.bool hp)
  c5 : w.cell? ⟨P, 5, none⟩ = some (.string dp)
  c6 : w.cell? ⟨P, 6, none⟩ = some (.slice pa n pc)

theorem SP.later {w w' : World} {P : Nat} {ma aa pa : Option Addr} {ml mc al ac n pc : Nat} {nd hp : Bool} {port : Int} {dp : ByteArray} (h : SP w P ma aa pa ml mc al ac n pc nd hp port dp) (hb : Below w.heap.size w w') : SP w' P ma aa pa ml mc al ac n pc nd hp port dp := by
  have hlt : P < w.heap.size := block_lt_of_cell h.c0
  exact ⟨(hb.cell (p := ⟨P, 0, none⟩) hlt).trans h.c0, (hb.cell (p := ⟨P, 1, none⟩) hlt).trans h.c1, (hb.cell (p := ⟨P, 2, none⟩) hlt).trans h.c2, (hb.cell (p := ⟨P, 4, none⟩) hlt).trans h.c4, (hb.cell (p := ⟨P, 5, none⟩) hlt).trans h.c5, (hb.cell (p := ⟨P, 6, none⟩) hlt).trans h.c6⟩

/-- The answer of has, and of the model. -/
def ans (mn an nd hp : Bool) (dp : ByteArray) (K : List Int) (key : Int) : Bool :=
  if key = 0 then !mn else if key = 1 then !an else if key = 2 then nd else if key = 3 then hp else if key = 7 then !dp.toList.isEmpty else decide (key ∈ K)

theorem ans0 (ma : Option Addr) (an nd hp : Bool) (dp : ByteArray) (K : List Int) : ma.isSome = ans ma.isNone an nd hp dp K 0 := by cases ma <;> rfl
theorem ans1 (aa : Option Addr) (mn nd hp : Bool) (dp : ByteArray) (K : List Int) : aa.isSome = ans mn aa.isNone nd hp dp K 1 := by cases aa <;> rfl

theorem ret_bool {a b : Bool} (h : a = b) : Ending.returned (.bool a) = .returned (.bool b) := by rw [h]

set_option maxHeartbeats 1000000 in
theorem has_any (P : Nat) (ma aa pa : Option Addr) (ml mc al ac n pc : Nat) (nd hp : Bool) (port key : Int) (dp : ByteArray) (K : List Int) (w : World) (hsp : SP w P ma aa pa ml mc al ac n pc nd hp port dp)
    (hn : n ≤ 1048576) (hpr : PRow w pa n K) (hs : Sorted K) (hk : 0 ≤ key ∧ key ≤ 65535) :
    Calls Try.prog 23 #[.pointer (some ⟨P, 0, none⟩), .int .u16 key] w fun e w' => e = .returned (.bool (ans ma.isNone aa.isNone nd hp dp K key)) ∧ Below w.heap.size w w' := by
  have n35 : ∀ (w : World) (a : Option Addr) (n c n' c' : Nat), (binOp .neq 35 (.slice a n c) (.slice none n' c')).run Try.prog w = .ok (.bool (!a.isNone)) w := fun w a n c n' c' => run_neq_slice_nil_any w _ _ a n c n' c' Try.underlying35
  have n28 : ∀ (w : World) (a : Option Addr) (n c n' c' : Nat), (binOp .neq 28 (.slice a n c) (.slice none n' c')).run Try.prog w = .ok (.bool (!a.isNone)) w := fun w a n c n' c' => run_neq_slice_nil_any w _ _ a n c n' c' Try.underlying28
  obtain ⟨c0, c1, c2, c4, c5, c6⟩ := hsp
  by_cases h0 : key = 0
  · subst h0
    clear hpr
    go_enter Try.func23, Try.ntmps23
    go_wp2_with fail
    go_ret
    exact ⟨ret_bool (ans0 ma _ _ _ _ _), Below.refl _ _⟩
  by_cases h1 : key = 1
  · subst h1
    clear hpr
    go_enter Try.func23, Try.ntmps23
    go_wp2_with fail
    go_ret
    exact ⟨ret_bool (ans1 aa _ _ _ _ _), Below.refl _ _⟩
  by_cases h2 : key = 2
  · subst h2
    clear hpr
    go_enter Try.func23, Try.ntmps23
    go_wp2_with fail
    go_ret
    exact ⟨rfl, Below.refl _ _⟩
  by_cases h3 : key = 3
  · subst h3
    clear hpr
    go_enter Try.func23, Try.ntmps23
    go_wp2_with fail
    go_ret
    exact ⟨rfl, Below.refl _ _⟩
  by_cases h7 : key = 7
  · subst h7
    clear hpr
    go_enter Try.func23, Try.ntmps23
    go_wp2_with fail
    go_ret
    exact ⟨rfl, Below.refl _ _⟩
  have HA : Hid (ans ma.isNone aa.isNone nd hp dp K key = decide (key ∈ K)) := by
    show _ = _
    unfold ans
    rw [if_neg h0, if_neg h1, if_neg h2, if_neg h3, if_neg h7]
  have HS := search_any pa n pc K key w hn hpr hs hk
  clear hpr
  go_enter Try.func23, Try.ntmps23
  go_wp2_with (go_at_call 27; refine HS.mono ?_; rintro e w1 ⟨⟨i, rfl⟩, hbel⟩)
  go_ret
  exact ⟨ret_bool HA.out.symm, hbel⟩

theorem zz_any (P : Nat) (ma aa pa : Option Addr) (ml mc al ac n pc : Nat) (nd hp : Bool) (port key : Int) (dp : ByteArray) (K : List Int) (w : World) (hsp : SP w P ma aa pa ml mc al ac n pc nd hp port dp)
    (hn : n ≤ 1048576) (hpr : PRow w pa n K) (hs : Sorted K) (hk : 0 ≤ key ∧ key ≤ 65535) :
    Calls Try.prog 19 #[.pointer (some ⟨P, 0, none⟩), .int .u16 key] w fun e w' => e = .returned (.bool (ans ma.isNone aa.isNone nd hp dp K key)) ∧ Below w.heap.size w w' := by
  have H := has_any P ma aa pa ml mc al ac n pc nd hp port key dp K w hsp hn hpr hs hk
  clear hpr hsp
  go_enter Try.func19, Try.ntmps19
  go_wp2_with (go_at_call 23; refine H.mono ?_; rintro e w1 ⟨rfl, hbel⟩)
  go_ret
  exact ⟨rfl, hbel⟩

theorem seen_step {K : List Int} {key : Int} {k : Nat} (h : ∀ x, x < k → ¬ K.getD x 0 = key) (h' : ¬ K.getD k 0 = key) : ∀ x, x < k + 1 → ¬ K.getD x 0 = key := by
  intro x hx
  rcases Nat.lt_or_ge x k with h1 | h1
  · exact h x h1
  · have : x = k := by omega
    subst this; exact h'

theorem seen_end {K : List Int} {key : Int} (h : ∀ x, x < K.length → ¬ K.getD x 0 = key) : key ∉ K := by
  intro hm
  obtain ⟨x, hx, hxe⟩ := List.mem_iff_getElem.1 hm
  exact h x hx (by simp [List.getD, hx, hxe])

theorem hit_mem {K : List Int} {key : Int} {k : Nat} (hk : k < K.length) (h : K.getD k 0 = key) : key ∈ K := by
  have e : K.getD k 0 = K[k] := by simp [List.getD, hk]
  rw [← h, e]
  exact List.getElem_mem hk

set_option maxHeartbeats 1000000 in
theorem model_any (ma aa pa : Option Addr) (ml mc al ac n pc : Nat) (nd hp : Bool) (key : Int) (dp : ByteArray) (K : List Int) (w : World) (hn : n ≤ 1048576) (hpr : PRow w pa n K) :
    Calls Try.prog 20 #[.slice ma ml mc, .slice aa al ac, .bool nd, .bool hp, .string dp, .slice pa n pc, .int .u16 key] w fun e w' => e = .returned (.bool (ans ma.isNone aa.isNone nd hp dp K key)) ∧ w' = w := by
  have n27 : ∀ (w : World) (a : Option Addr) (n c n' c' : Nat), (binOp .neq 27 (.slice a n c) (.slice none n' c')).run Try.prog w = .ok (.bool (!a.isNone)) w := fun w a n c n' c' => run_neq_slice_nil_any w _ _ a n c n' c' Try.underlying27
  have n28 : ∀ (w : World) (a : Option Addr) (n c n' c' : Nat), (binOp .neq 28 (.slice a n c) (.slice none n' c')).run Try.prog w = .ok (.bool (!a.isNone)) w := fun w a n c n' c' => run_neq_slice_nil_any w _ _ a n c n' c' Try.underlying28
  by_cases h0 : key = 0
  · subst h0
    clear hpr
    go_enter Try.func20, Try.ntmps20
    go_wp2_with fail
    go_ret
    exact ⟨ret_bool (ans0 ma _ _ _ _ _), rfl⟩
  by_cases h1 : key = 1
  · subst h1
    clear hpr
    go_enter Try.func20, Try.ntmps20
    go_wp2_with fail
    go_ret
    exact ⟨ret_bool (ans1 aa _ _ _ _ _), rfl⟩
  by_cases h2 : key = 2
  · subst h2
    clear hpr
    go_enter Try.func20, Try.ntmps20
    go_wp2_with fail
    go_ret
    exact ⟨rfl, rfl⟩
  by_cases h3 : key = 3
  · subst h3
    clear hpr
    go_enter Try.func20, Try.ntmps20
    go_wp2_with fail
    go_ret
    exact ⟨rfl, rfl⟩
  by_cases h7 : key = 7
  · subst h7
    clear hpr
    go_enter Try.func20, Try.ntmps20
    go_wp2_with fail
    go_ret
    exact ⟨rfl, rfl⟩
  have HA : Hid (ans ma.isNone aa.isNone nd hp dp K key = decide (key ∈ K)) := by
    show _ = _
    unfold ans
    rw [if_neg h0, if_neg h1, if_neg h2, if_neg h3, if_neg h7]
  have HLE : Hid (K.length = n) := hpr.leng
  go_enter Try.func20, Try.ntmps20
  go_wp2_with fail
  go_loop [15] (fun i => ∃ k : Nat, k ≤ n ∧ i = .int .i64 k ∧ Hid (∀ x, x < k → ¬ K.getD x 0 = key)) (fun i => n - (intOf i).toNat)
  case atStart => exact ⟨0, Nat.zero_le _, rfl, fun x h => absurd h (by omega)⟩
  case round =>
    obtain ⟨k, hk, rfl, HX⟩ := hrel
    by_cases hlt : k < n
    · obtain ⟨b, off, rfl, hb, hc0, _⟩ := hpr.at_ (by omega)
      have hcell := hc0 k hlt
      obtain ⟨c, hc⟩ : ∃ c, c = K.getD k 0 := ⟨_, rfl⟩
      rw [← hc] at hcell
      have HC : Hid (c = K.getD k 0) := hc
      clear hc hc0 hpr
      by_cases hck : (c == key) = true
      · have hm : key ∈ K := hit_mem (by rw [HLE.out]; exact hlt) (by rw [← HC.out]; exact WalkArith.int_eq hck)
        have HM : Hid (true = ans ma.isNone aa.isNone nd hp dp K key) := by show _ = _; rw [HA.out]; exact (decide_eq_true hm).symm
        clear hm
        go_wp2_with fail
        go_ret
        exact ⟨ret_bool HM.out, rfl⟩
      · have hck' : (c == key) = false := by simpa using hck
        have hst := seen_step HX.out (by rw [← HC.out]; exact WalkArith.int_ne hck')
        have HST : Hid _ := hst
        clear hst
        go_wp2_with fail
        go_round
        case rel => exact ⟨k + 1, by omega, by go_num, HST.out⟩
        case measure => simp [intOf]; omega
    · have hm : key ∉ K := seen_end (fun x hx => HX.out x (by rw [HLE.out] at hx; omega))
      have HM : Hid (false = ans ma.isNone aa.isNone nd hp dp K key) := by show _ = _; rw [HA.out]; exact (decide_eq_false hm).symm
      clear hm
      go_wp2_with fail
      go_ret
      exact ⟨ret_bool HM.out, rfl⟩
end Go.Proofs.Qxb6601968a.Has
