/-
  sameADN and ZZSameADN (functions 22 and 14): their contracts, over a plain function.
-/
import Derived.Test.Qxb6601968aRows
import Derived.WalkKit
import Derived.WalkSpells
import Derived.WalkLawsBesides
import Derived.Deep.QuietTactic
import Derived.BigQuiet
import Derived.WalkSmall
import Derived.Lib.Strings
namespace Go.Proofs.Qxb6601968a.Adn
open Go.RowKit

/-- The bytes of a string, as numbers. -/
def bs (s : ByteArray) : List Int := s.data.toList.map fun x => (x.toNat : Int)

/-- The ASCII lower case of a byte. -/
def lwi (c : Int) : Int := if 65 ≤ c ∧ c ≤ 90 then c + 32 else c

/-- One dot at the end is dropped. -/
def tr (l : List Int) : List Int := if l.getLast? = some 46 then l.dropLast else l

/-- What sameADN compares. -/
def key (l : List Int) : List Int := (tr l).map lwi

theorem ret_int {k : IntKind} {a b : Int} (h : a = b) : Ending.returned (.int k a) = .returned (.int k b) := by rw [h]

theorem lower_any (c : Int) (w : World) (h0 : 0 ≤ c) (h1 : c ≤ 255) : Calls Try.prog 26 #[.int .u8 c] w fun e w' => e = .returned (.int .u8 (lwi c)) ∧ w' = w := by
  by_cases h : 65 ≤ c ∧ c ≤ 90
  · have hl : lwi c = c + 32 := if_pos h
    have HL : Hid (lwi c = c + 32) := hl
    clear hl
    obtain ⟨ha, hb⟩ := h
    go_enter Try.func26, Try.ntmps26
    go_wp2
    go_ret
    exact ⟨ret_int (by rw [HL.out]; omega), rfl⟩
  · have hl : lwi c = c := if_neg h
    have HL : Hid (lwi c = c) := hl
    have h' : c < 65 ∨ (65 ≤ c ∧ 90 < c) := by omega
    clear hl h
    rcases h' with ha | ⟨ha, hb⟩
    · go_enter Try.func26, Try.ntmps26
      go_wp2
      go_ret
      exact ⟨ret_int (by rw [HL.out]), rfl⟩
    · go_enter Try.func26, Try.ntmps26
      go_wp2
      go_ret
      exact ⟨ret_int (by rw [HL.out]), rfl⟩

theorem byte46 (x : UInt8) : ((x.toNat : Int) = 46) ↔ x = 46 := by
  constructor
  · intro h
    have h2 : x.toNat = (46 : UInt8).toNat := by
      have : (46 : UInt8).toNat = 46 := rfl
      omega
    exact UInt8.toNat_inj.1 h2
  · intro h; subst h; rfl

theorem tr_len (l : List Int) : (tr l).length ≤ l.length := by
  unfold tr
  split
  · simp
  · exact Nat.le_refl _

theorem bs_len (s : ByteArray) : (bs s).length = s.size := by simp [bs]

theorem last_split (s : ByteArray) (h : 0 < s.size) : ∃ i x, s.data.toList = i ++ [x] ∧ s.size = i.length + 1 := by
  have hl : s.data.toList.length = s.size := by simp
  rcases List.eq_nil_or_concat s.data.toList with h0 | ⟨i, x, h1⟩
  · rw [h0] at hl; simp at hl; omega
  · rw [List.concat_eq_append] at h1
    exact ⟨i, x, h1, by rw [← hl, h1]; simp⟩

theorem last_test (s : ByteArray) (h : 0 < s.size) : ((s.extract (s.size - 1) s.size).toList == [46]) = decide ((bs s).getLast? = some 46) := by
  obtain ⟨i, x, h1, h2⟩ := last_split s h
  rw [Lib.extract_toList, h1, h2]
  have e : (bs s).getLast? = some (x.toNat : Int) := by simp [bs, h1]
  rw [e]
  have e2 : (List.take (i.length + 1 - (i.length + 1 - 1)) (List.drop (i.length + 1 - 1) (i ++ [x]))) = [x] := by simp
  rw [e2]
  by_cases hx : x = 46
  · subst hx; rfl
  · have h3 : ¬ ((x.toNat : Int) = 46) := fun e => hx ((byte46 x).1 e)
    simp [hx, h3]

theorem bs_front (s : ByteArray) (h : 0 < s.size) : bs (s.extract 0 (s.size - 1)) = (bs s).dropLast := by
  obtain ⟨i, x, h1, h2⟩ := last_split s h
  unfold bs
  rw [Lib.extract_data, h1, h2]
  simp

/-- strings.TrimSuffix(s, one dot). -/
theorem trim_any (s : ByteArray) (w : World) (hs : s.size ≤ 9223372036854775807) : Calls Try.prog 25 #[.string s, .string ⟨#[46]⟩] w fun e w' => (∃ t, e = .returned (.string t) ∧ Hid (bs t = tr (bs s))) ∧ w' = w := by
  by_cases h0 : 0 < s.size
  · have ht := last_test s h0
    by_cases hd : (bs s).getLast? = some 46
    · rw [decide_eq_true hd] at ht
      have hb := bs_front s h0
      have HB : Hid (bs (s.extract 0 (s.size - 1)) = tr (bs s)) := by show _ = _; rw [hb]; unfold tr; rw [if_pos hd]
      clear hb hd
      go_enter Try.func25, Try.ntmps25
      go_wp2
      go_ret
      exact ⟨⟨_, rfl, HB⟩, rfl⟩
    · rw [decide_eq_false hd] at ht
      have HB : Hid (bs s = tr (bs s)) := by show _ = _; unfold tr; rw [if_neg hd]
      clear hd
      go_enter Try.func25, Try.ntmps25
      go_wp2
      go_ret
      exact ⟨⟨_, rfl, HB⟩, rfl⟩
  · have hz : s.size = 0 := by omega
    have hn : bs s = [] := List.eq_nil_of_length_eq_zero (by rw [bs_len]; exact hz)
    have HB : Hid (bs s = tr (bs s)) := by show _ = _; rw [hn]; rfl
    have hz' : s.size ≤ 0 := by omega
    clear hn hz
    go_enter Try.func25, Try.ntmps25
    go_wp2
    go_ret
    exact ⟨⟨_, rfl, HB⟩, rfl⟩

theorem bs_at (s : ByteArray) (k : Nat) (h : k < s.size) : (bs s)[k]? = some (s[k].toNat : Int) := by
  have h' : k < s.data.toList.length := by simpa using h
  simp only [bs, List.getElem?_map, List.getElem?_eq_getElem h', Option.map_some]
  rfl

theorem byte_bd (x : UInt8) : 0 ≤ (x.toNat : Int) ∧ (x.toNat : Int) ≤ 255 := by
  have := x.toNat_lt
  omega

theorem ret_bool {a b : Bool} (h : a = b) : Ending.returned (.bool a) = .returned (.bool b) := by rw [h]

/-- One round: the two go on alike. -/
theorem take_same (A B : ByteArray) (k : Nat) (ha : k < A.size) (hb : k < B.size) (h : ((bs A).take k).map lwi = ((bs B).take k).map lwi) (he : lwi (A[k].toNat : Int) = lwi (B[k].toNat : Int)) :
    ((bs A).take (k + 1)).map lwi = ((bs B).take (k + 1)).map lwi := by
  have h1 := bs_at A k ha
  have h2 := bs_at B k hb
  have ka : k < (bs A).length := by rw [bs_len]; exact ha
  have kb : k < (bs B).length := by rw [bs_len]; exact hb
  rw [List.getElem?_eq_getElem ka] at h1
  rw [List.getElem?_eq_getElem kb] at h2
  rw [List.take_succ_eq_append_getElem ka, List.take_succ_eq_append_getElem kb, List.map_append, List.map_append, h, Option.some.inj h1, Option.some.inj h2]
  simp [he]

theorem part_ways (A B : ByteArray) (k : Nat) (ha : k < A.size) (hb : k < B.size) (he : ¬ lwi (A[k].toNat : Int) = lwi (B[k].toNat : Int)) : ¬ (bs A).map lwi = (bs B).map lwi := by
  intro e
  have h1 : ((bs A).map lwi)[k]? = ((bs B).map lwi)[k]? := by rw [e]
  rw [List.getElem?_map, List.getElem?_map, bs_at A k ha, bs_at B k hb] at h1
  simp at h1
  exact he h1

set_option maxHeartbeats 1000000 in
set_option maxRecDepth 100000 in
theorem same_any (a b : ByteArray) (w : World) (ha : a.size ≤ 9223372036854775806) (hb : b.size ≤ 9223372036854775806) :
    Calls Try.prog 22 #[.string a, .string b] w fun e w' => e = .returned (.bool (decide (key (bs a) = key (bs b)))) ∧ Below w.heap.size w w' := by
  go_enter Try.func22, Try.ntmps22
  go_wp2_with fail
  refine (trim_any a _ (by omega)).mono ?_
  rintro e w1 ⟨⟨A, rfl, HA⟩, rfl⟩
  go_wp2_with fail
  refine (trim_any b _ (by omega)).mono ?_
  rintro e w2 ⟨⟨B, rfl, HB⟩, rfl⟩
  have hK : (key (bs a) = key (bs b)) ↔ (bs A).map lwi = (bs B).map lwi := by unfold key; rw [← HA.out, ← HB.out]
  have hAz : A.size ≤ a.size := by rw [← bs_len, HA.out, ← bs_len a]; exact tr_len _
  have HK : Hid (decide (key (bs a) = key (bs b)) = decide ((bs A).map lwi = (bs B).map lwi)) := decide_eq_decide.2 hK
  clear hK HA HB
  by_cases hsz : A.size = B.size
  · have hszb : ((A.size : Int) != (B.size : Int)) = false := by simp; omega
    have hs1 : A.size ≤ B.size := by omega
    have hs2 : B.size ≤ A.size := by omega
    have HS : Hid (A.size = B.size) := hsz
    clear hsz
    go_wp2_with fail
    go_loopw [6] (fun i wr => ∃ k : Nat, k ≤ A.size ∧ i = .int .i64 k ∧ Hid (((bs A).take k).map lwi = ((bs B).take k).map lwi) ∧ Below w2.heap.size w2 wr) (fun i _ => A.size - (intOf i).toNat)
    case atStart => exact ⟨0, Nat.zero_le _, rfl, rfl, Below.refl _ _⟩
    case round =>
      obtain ⟨k, hk, rfl, HT, hbel⟩ := hrel
      by_cases hlt : k < A.size
      · have hltb : k < B.size := by omega
        have hxa := byte_bd A[k]
        have hxb := byte_bd B[k]
        go_wp2_with fail
        go_quiet ((go_at_call 26; exact Calls.quiet_of_same (lower_any _ _ (by omega) (by omega))))
        go_wp2_with fail
        · have hne : (lwi (A[k].toNat : Int) != lwi (B[k].toNat : Int)) = true := by assumption
          have hn := part_ways A B k hlt hltb (by simpa using hne)
          go_ret
          exact ⟨ret_bool (by rw [HK.out]; exact (decide_eq_false hn).symm), below_drewN hbel _⟩
        · have heq : (lwi (A[k].toNat : Int) != lwi (B[k].toNat : Int)) = false := by assumption
          have ht := take_same A B k hlt hltb HT.out (by simpa using heq)
          go_roundw
          case rel => exact ⟨k + 1, by omega, by go_num, ht, below_drewN hbel _⟩
          case measure => simp [intOf]; omega
      · have hke : (bs A).map lwi = (bs B).map lwi := by
          have h := HT.out
          rw [List.take_of_length_le (by rw [bs_len]; omega), List.take_of_length_le (by rw [bs_len]; omega)] at h
          exact h
        have HE : Hid ((bs A).map lwi = (bs B).map lwi) := hke
        clear hke HT
        go_wp2_with fail
        go_ret
        exact ⟨ret_bool (by rw [HK.out]; exact (decide_eq_true HE.out).symm), hbel⟩
  · have hszb : ((A.size : Int) != (B.size : Int)) = true := by simp; omega
    have hne : ¬ (bs A).map lwi = (bs B).map lwi := by
      intro e
      have := congrArg List.length e
      simp [bs_len] at this
      exact hsz this
    have HN : Hid (¬ (bs A).map lwi = (bs B).map lwi) := hne
    clear hne hsz
    go_wp2_with fail
    go_ret
    exact ⟨ret_bool (by rw [HK.out]; exact (decide_eq_false HN.out).symm), Below.refl _ _⟩

theorem zz_any (a b : ByteArray) (w : World) (ha : a.size ≤ 9223372036854775806) (hb : b.size ≤ 9223372036854775806) :
    Calls Try.prog 14 #[.string a, .string b] w fun e w' => e = .returned (.bool (decide (key (bs a) = key (bs b)))) ∧ Below w.heap.size w w' := by
  go_enter Try.func14, Try.ntmps14
  go_wp2_with (go_at_call 22; refine (same_any a b _ ha hb).mono ?_; rintro e w1 ⟨rfl, hbel⟩)
  go_ret
  exact ⟨rfl, hbel⟩
end Go.Proofs.Qxb6601968a.Adn
