/-
  eventKinds (function 18): its contract.
-/
import Derived.Test.Qxb6603013aHas
import Derived.Test.Qxb6603013aClone
namespace Go.Proofs.Qxb6603013a.Items
open Go.RowKit

/-- The kinds that are debug events. -/
def evs (l : List Int) : List Int := l.filter fun k => k == 13 || k == 14

/-- Whatever stands behind place i, told from the start. -/
def Upto (s : ByteArray) (i : Nat) (pre : List Int) : Prop := ∀ rest, Chain (s.extract i s.size) rest → Chain s (pre ++ rest)

theorem upto_zero (s : ByteArray) : Upto s 0 [] := by
  intro rest h
  have e : s.extract 0 s.size = s := by simp
  rw [e] at h
  exact h

theorem upto_step {s : ByteArray} {i : Nat} {pre : List Int} {k : Int} {j : Nat} (h : Upto s i pre) (hi : Itm (s.extract i s.size) k j) : Upto s (i + j) (pre ++ [k]) := by
  intro rest hr
  rw [List.append_assoc]
  refine h _ ⟨j, hi, ?_⟩
  rw [extract_twice]
  exact hr

theorem itm_plain {s : ByteArray} {i : Nat} (hi : i < s.size) (h8 : 8 < bt s i) (h14 : bt s i ≤ 14) : Itm (s.extract i s.size) (bt s i : Nat) 1 := by
  have hsz : (s.extract i s.size).size = s.size - i := by simp
  refine ⟨by omega, by rw [bt_extract s i 0 hi]; rfl, by omega, by omega, .inl ⟨by omega, rfl⟩⟩

theorem itm_text {s : ByteArray} {i m : Nat} (hi : i < s.size) (h1 : 1 ≤ bt s i) (h8 : bt s i ≤ 8) (hm : Cont (s.extract (i + 1) s.size) m) (hn : vv (s.extract (i + 1) s.size) (m + 1) ≤ s.size - (i + 1 + (m + 1))) :
    Itm (s.extract i s.size) (bt s i : Nat) (1 + (m + 1) + vv (s.extract (i + 1) s.size) (m + 1)) := by
  have hsz : (s.extract i s.size).size = s.size - i := by simp
  have hsz2 : (s.extract (i + 1) s.size).size = s.size - (i + 1) := by simp
  have hw := hm.within
  refine ⟨by omega, by rw [bt_extract s i 0 hi]; rfl, by omega, by omega, .inr ⟨by omega, m, ?_, ?_, by omega⟩⟩
  · rw [extract_twice]; exact hm
  · rw [extract_twice]

theorem evs_keep {k : Int} (pre : List Int) (h : k = 13 ∨ k = 14) : evs (pre ++ [k]) = evs pre ++ [k] := by
  unfold evs
  rw [List.filter_append]
  rcases h with rfl | rfl <;> simp

theorem evs_drop {k : Int} (pre : List Int) (h : ¬ k = 13) (h' : ¬ k = 14) : evs (pre ++ [k]) = evs pre := by
  unfold evs
  rw [List.filter_append]
  simp [h, h']

theorem more_snoc {t : ByteArray} {c : Nat} (h : ∀ j, j < c → 128 ≤ bt t j) (h' : 128 ≤ bt t c) : ∀ j, j < c + 1 → 128 ≤ bt t j := by
  intro j hj
  rcases Nat.lt_or_ge j c with h1 | h1
  · exact h j h1
  · have : j = c := by omega
    subst this; exact h'

theorem evs_len (pre : List Int) : (evs pre).length ≤ pre.length := List.length_filter_le _ _

set_option maxHeartbeats 1000000 in
set_option maxRecDepth 100000 in
theorem kinds_any (s : ByteArray) (w : World) (hs : s.size ≤ 1048576) :
    Calls Try.prog 18 #[.string s] w fun e w' => ((e = .returned (.tuple #[.slice none 0 0, .bool false])) ∨ ∃ ks v, e = .returned (.tuple #[v, .bool true]) ∧ Chain s ks ∧ ks.length ≤ s.size ∧
      w'.ownsRow w.heap.size 5 1 v (evs ks).length ((evs ks).map (Value.int .u8))) ∧ Below w.heap.size w w' := by
  obtain ⟨i0, hi, hz0, hz1, hz2⟩ := info_parts Clone.info5
  go_enter Try.func18, Try.ntmps18
  go_wp2_with fail
  go_loopg [4, 5] s.size (fun g v iv wr => ∃ (i : Nat) (pre : List Int), iv = .int .i64 i ∧ i ≤ s.size ∧ Hid (g = s.size - i) ∧ pre.length ≤ i ∧ wr.ownsRow w.heap.size 5 1 v (evs pre).length ((evs pre).map (Value.int .u8)) ∧ Below w.heap.size w wr ∧ Hid (Upto s i pre))
  case atStart => exact ⟨0, [], rfl, Nat.zero_le _, rfl, Nat.le_refl _, World.ownsRow_nil _ _ _ _, Below.refl _ _, upto_zero s⟩
  case round =>
    obtain ⟨i, pre, rfl, hi1, HG, hpl, hown, hbel, HU⟩ := hrel
    by_cases hil : i < s.size
    · have hb : s[i].toNat = bt s i := bt_of s i hil
      have hlt := bt_lt s i
      by_cases hk0 : bt s i < 1
      · go_wp2_with fail
        go_ret2
        exact ⟨.inl rfl, hbel⟩
      · by_cases hk14 : 14 < bt s i
        · go_wp2_with fail
          go_ret2
          exact ⟨.inl rfl, hbel⟩
        · by_cases hk8 : bt s i ≤ 8
          · have hd1 : decide ((bt s i : Int) < 1) = false := decide_eq_false (by omega)
            have hd2 : decide ((14 : Int) < (bt s i : Int)) = false := decide_eq_false (by omega)
            have hd3 : decide ((bt s i : Int) ≤ 8) = true := decide_eq_true (by omega)
            go_wp2_with fail
            obtain ⟨r, hr⟩ : ∃ r, r = s.extract (i + 1) s.size := ⟨_, rfl⟩
            have hrs : r.size = s.size - (i + 1) := by rw [hr]; simp
            have HR : Hid (r = s.extract (i + 1) s.size) := hr
            have HRS : Hid (r.size = s.size - (i + 1)) := hrs
            have hb13 : ((bt s i : Int) == 13) = false := by rw [beq_eq_false_iff_ne]; omega
            have hb14 : ((bt s i : Int) == 14) = false := by rw [beq_eq_false_iff_ne]; omega
            clear hr hrs
            go_loopg [5, 7, 8] 5 (fun g iv nv sv wx => ∃ (p c : Nat), iv = .int .i64 p ∧ c ≤ 4 ∧ sv = .int .i64 ((7 * c : Nat) : Int) ∧ Hid (g = 5 - c) ∧ nv = .int .i64 (vv r c : Nat) ∧ wr = wx ∧ p ≤ s.size ∧ p = i + 1 + c ∧ Hid (∀ j, j < c → 128 ≤ bt r j))
            case atStart => exact ⟨i + 1, 0, by go_num, by omega, rfl, rfl, rfl, rfl, by omega, rfl, fun j h => absurd h (by omega)⟩
            case round =>
              obtain ⟨p, c, rfl, hc4, rfl, HGG, rfl, rfl, hp, hpe, HM⟩ := hrel
              by_cases hps : p < s.size
              · have hb2 : s[p].toNat = bt r c := by
                  rw [HR.out, bt_of s p hps, bt_extract s (i + 1) c (by omega), hpe]
                have hlt2 := bt_lt r c
                have hmask : bits .and .u8 (bt r c : Int) 127 = (bt r c : Int) % 128 := bits_mask .u8 8 (by decide) wraps_u8 7 (by decide) _ (by omega) (by omega)
                have hv := vv_lt r c
                have hpe1 : p ≤ i + 1 + c := by omega
                have hpe2 : i + 1 + c ≤ p := by omega
                clear hpe
                have hc' : c = 0 ∨ c = 1 ∨ c = 2 ∨ c = 3 ∨ c = 4 := by omega
                rcases hc' with rfl | rfl | rfl | rfl | rfl
                · have HO : Hid _ := vv0 r
                  by_cases hsm : bt r 0 < 128
                  · have hcont : Cont r 0 := ⟨HM.out, hsm, by rw [HRS.out]; omega, by omega⟩
                    have HC : Hid (Cont r 0) := hcont
                    by_cases hfit : vv r 1 ≤ s.size - (i + 1 + 1)
                    · have HI : Itm (s.extract i s.size) (bt s i : Nat) (1 + 1 + vv r 1) := by have hr := HR.out; subst hr; exact itm_text hil (by omega) hk8 hcont hfit
                      have HU2 := upto_step HU.out HI
                      have HU3 : Hid (Upto s (p + 1 + vv r 1) (pre ++ [(bt s i : Int)])) := by
                        have e : i + (1 + 1 + vv r 1) = p + 1 + vv r 1 := by omega
                        rw [e] at HU2; exact HU2
                      obtain ⟨V, hV⟩ : ∃ V, V = vv r 1 := ⟨_, rfl⟩
                      have HO2 := HO.out
                      rw [← hV] at HO2 HU3 hfit
                      have hfit' : (V : Int) ≤ (s.size : Int) - ((p : Int) + 1) := by omega
                      clear hcont HI HU2 HC HO hV
                      go_wp2_with fail
                      go_roundg (s.size - (p + 1 + V))
                      case measure => rw [HG.out]; omega
                      case rel => exact ⟨p + 1 + V, pre ++ [(bt s i : Int)], by go_num, by omega, rfl, by simp; omega, by rw [evs_drop pre (by omega) (by omega)]; exact hown, hbel, HU3⟩
                    · obtain ⟨V, hV⟩ : ∃ V, V = vv r 1 := ⟨_, rfl⟩
                      have HO2 := HO.out
                      rw [← hV] at HO2 hfit
                      have hfit' : (s.size : Int) - ((p : Int) + 1) < (V : Int) := by omega
                      clear hcont HC HO hV
                      go_wp2_with fail
                      go_ret2
                      exact ⟨.inl rfl, hbel⟩
                  · have hge : 128 ≤ bt r 0 := by omega
                    go_wp2_with fail
                    go_roundg 4
                    case measure => rw [HGG.out]; omega
                    case rel => exact ⟨p + 1, 1, by go_num, by omega, rfl, rfl, by rw [HO.out], rfl, by omega, by omega, more_snoc HM.out hge⟩
                · have HO : Hid _ := vv1 r
                  by_cases hsm : bt r 1 < 128
                  · have hcont : Cont r 1 := ⟨HM.out, hsm, by rw [HRS.out]; omega, by omega⟩
                    have HC : Hid (Cont r 1) := hcont
                    by_cases hfit : vv r 2 ≤ s.size - (i + 1 + 2)
                    · have HI : Itm (s.extract i s.size) (bt s i : Nat) (1 + 2 + vv r 2) := by have hr := HR.out; subst hr; exact itm_text hil (by omega) hk8 hcont hfit
                      have HU2 := upto_step HU.out HI
                      have HU3 : Hid (Upto s (p + 1 + vv r 2) (pre ++ [(bt s i : Int)])) := by
                        have e : i + (1 + 2 + vv r 2) = p + 1 + vv r 2 := by omega
                        rw [e] at HU2; exact HU2
                      obtain ⟨V, hV⟩ : ∃ V, V = vv r 2 := ⟨_, rfl⟩
                      have HO2 := HO.out
                      rw [← hV] at HO2 HU3 hfit
                      have hfit' : (V : Int) ≤ (s.size : Int) - ((p : Int) + 1) := by omega
                      clear hcont HI HU2 HC HO hV
                      go_wp2_with fail
                      go_roundg (s.size - (p + 1 + V))
                      case measure => rw [HG.out]; omega
                      case rel => exact ⟨p + 1 + V, pre ++ [(bt s i : Int)], by go_num, by omega, rfl, by simp; omega, by rw [evs_drop pre (by omega) (by omega)]; exact hown, hbel, HU3⟩
                    · obtain ⟨V, hV⟩ : ∃ V, V = vv r 2 := ⟨_, rfl⟩
                      have HO2 := HO.out
                      rw [← hV] at HO2 hfit
                      have hfit' : (s.size : Int) - ((p : Int) + 1) < (V : Int) := by omega
                      clear hcont HC HO hV
                      go_wp2_with fail
                      go_ret2
                      exact ⟨.inl rfl, hbel⟩
                  · have hge : 128 ≤ bt r 1 := by omega
                    go_wp2_with fail
                    go_roundg 3
                    case measure => rw [HGG.out]; omega
                    case rel => exact ⟨p + 1, 2, by go_num, by omega, rfl, rfl, by rw [HO.out], rfl, by omega, by omega, more_snoc HM.out hge⟩
                · have HO : Hid _ := vv2 r
                  by_cases hsm : bt r 2 < 128
                  · have hcont : Cont r 2 := ⟨HM.out, hsm, by rw [HRS.out]; omega, by omega⟩
                    have HC : Hid (Cont r 2) := hcont
                    by_cases hfit : vv r 3 ≤ s.size - (i + 1 + 3)
                    · have HI : Itm (s.extract i s.size) (bt s i : Nat) (1 + 3 + vv r 3) := by have hr := HR.out; subst hr; exact itm_text hil (by omega) hk8 hcont hfit
                      have HU2 := upto_step HU.out HI
                      have HU3 : Hid (Upto s (p + 1 + vv r 3) (pre ++ [(bt s i : Int)])) := by
                        have e : i + (1 + 3 + vv r 3) = p + 1 + vv r 3 := by omega
                        rw [e] at HU2; exact HU2
                      obtain ⟨V, hV⟩ : ∃ V, V = vv r 3 := ⟨_, rfl⟩
                      have HO2 := HO.out
                      rw [← hV] at HO2 HU3 hfit
                      have hfit' : (V : Int) ≤ (s.size : Int) - ((p : Int) + 1) := by omega
                      clear hcont HI HU2 HC HO hV
                      go_wp2_with fail
                      go_roundg (s.size - (p + 1 + V))
                      case measure => rw [HG.out]; omega
                      case rel => exact ⟨p + 1 + V, pre ++ [(bt s i : Int)], by go_num, by omega, rfl, by simp; omega, by rw [evs_drop pre (by omega) (by omega)]; exact hown, hbel, HU3⟩
                    · obtain ⟨V, hV⟩ : ∃ V, V = vv r 3 := ⟨_, rfl⟩
                      have HO2 := HO.out
                      rw [← hV] at HO2 hfit
                      have hfit' : (s.size : Int) - ((p : Int) + 1) < (V : Int) := by omega
                      clear hcont HC HO hV
                      go_wp2_with fail
                      go_ret2
                      exact ⟨.inl rfl, hbel⟩
                  · have hge : 128 ≤ bt r 2 := by omega
                    go_wp2_with fail
                    go_roundg 2
                    case measure => rw [HGG.out]; omega
                    case rel => exact ⟨p + 1, 3, by go_num, by omega, rfl, rfl, by rw [HO.out], rfl, by omega, by omega, more_snoc HM.out hge⟩
                · have HO : Hid _ := vv3 r
                  by_cases hsm : bt r 3 < 128
                  · have hcont : Cont r 3 := ⟨HM.out, hsm, by rw [HRS.out]; omega, by omega⟩
                    have HC : Hid (Cont r 3) := hcont
                    by_cases hfit : vv r 4 ≤ s.size - (i + 1 + 4)
                    · have HI : Itm (s.extract i s.size) (bt s i : Nat) (1 + 4 + vv r 4) := by have hr := HR.out; subst hr; exact itm_text hil (by omega) hk8 hcont hfit
                      have HU2 := upto_step HU.out HI
                      have HU3 : Hid (Upto s (p + 1 + vv r 4) (pre ++ [(bt s i : Int)])) := by
                        have e : i + (1 + 4 + vv r 4) = p + 1 + vv r 4 := by omega
                        rw [e] at HU2; exact HU2
                      obtain ⟨V, hV⟩ : ∃ V, V = vv r 4 := ⟨_, rfl⟩
                      have HO2 := HO.out
                      rw [← hV] at HO2 HU3 hfit
                      have hfit' : (V : Int) ≤ (s.size : Int) - ((p : Int) + 1) := by omega
                      clear hcont HI HU2 HC HO hV
                      go_wp2_with fail
                      go_roundg (s.size - (p + 1 + V))
                      case measure => rw [HG.out]; omega
                      case rel => exact ⟨p + 1 + V, pre ++ [(bt s i : Int)], by go_num, by omega, rfl, by simp; omega, by rw [evs_drop pre (by omega) (by omega)]; exact hown, hbel, HU3⟩
                    · obtain ⟨V, hV⟩ : ∃ V, V = vv r 4 := ⟨_, rfl⟩
                      have HO2 := HO.out
                      rw [← hV] at HO2 hfit
                      have hfit' : (s.size : Int) - ((p : Int) + 1) < (V : Int) := by omega
                      clear hcont HC HO hV
                      go_wp2_with fail
                      go_ret2
                      exact ⟨.inl rfl, hbel⟩
                  · have hge : 128 ≤ bt r 3 := by omega
                    go_wp2_with fail
                    go_roundg 1
                    case measure => rw [HGG.out]; omega
                    case rel => exact ⟨p + 1, 4, by go_num, by omega, rfl, rfl, by rw [HO.out], rfl, by omega, by omega, more_snoc HM.out hge⟩
                · go_wp2_with fail
                  go_ret2
                  exact ⟨.inl rfl, hbel⟩
              · clear hpe
                go_wp2_with fail
                go_ret2
                exact ⟨.inl rfl, hbel⟩
          · have hd1 : decide ((bt s i : Int) < 1) = false := decide_eq_false (by omega)
            have hd2 : decide ((14 : Int) < (bt s i : Int)) = false := decide_eq_false (by omega)
            have hd3 : decide ((bt s i : Int) ≤ 8) = false := decide_eq_false (by omega)
            by_cases h13 : bt s i = 13
            · have hb13 : ((bt s i : Int) == 13) = true := by rw [h13]; rfl
              have h13a : bt s i ≤ 13 := by omega
              have h13b : 13 ≤ bt s i := by omega
              clear h13
              have hsz := hbel.size
              have hel := evs_len pre
              have HU2 : Hid (Upto s (i + 1) (pre ++ [(bt s i : Int)])) := upto_step HU.out (itm_plain hil (by omega) (by omega))
              go_wp2_with (at_builtin; refine wpList_append_own _ rfl (.tmp 66) (.tmp 68) 22 rfl w.heap.size 5 i0 (.int .u8 0) 1 1 Try.underlying22 hi hz0 hz1 hz2 rfl (by decide) _ _ _ rfl (hown.alloc _) ⟨wr.heap.size, 0, none⟩ 1 1 [_] rfl rfl (cell_one_new _ _ _) (by intro u hu; simp at hu; subst hu; rfl) (by unfold maxLen; omega) (by omega) (by simp; omega) ?_; intro v' w1 hown1 hgrow1 _)
              go_roundg (s.size - (i + 1))
              case measure => rw [HG.out]; omega
              case rel => exact ⟨i + 1, pre ++ [(bt s i : Int)], by go_num, by omega, rfl, by simp; omega, by rw [evs_keep pre (by omega), List.length_append, List.map_append]; exact hown1, (hbel.alloc hbel.size _).grown hgrow1 (by simp; omega) (fun k hk => (hown.lt k hk).1), HU2⟩
            · have hb13 : ((bt s i : Int) == 13) = false := by rw [beq_eq_false_iff_ne]; omega
              by_cases h14 : bt s i = 14
              · have hb14 : ((bt s i : Int) == 14) = true := by rw [h14]; rfl
                have h14a : bt s i ≤ 14 := by omega
                have h14b : 14 ≤ bt s i := by omega
                clear h14
                have hsz := hbel.size
                have hel := evs_len pre
                have HU2 : Hid (Upto s (i + 1) (pre ++ [(bt s i : Int)])) := upto_step HU.out (itm_plain hil (by omega) (by omega))
                go_wp2_with (at_builtin; refine wpList_append_own _ rfl (.tmp 66) (.tmp 68) 22 rfl w.heap.size 5 i0 (.int .u8 0) 1 1 Try.underlying22 hi hz0 hz1 hz2 rfl (by decide) _ _ _ rfl (hown.alloc _) ⟨wr.heap.size, 0, none⟩ 1 1 [_] rfl rfl (cell_one_new _ _ _) (by intro u hu; simp at hu; subst hu; rfl) (by unfold maxLen; omega) (by omega) (by simp; omega) ?_; intro v' w1 hown1 hgrow1 _)
                go_roundg (s.size - (i + 1))
                case measure => rw [HG.out]; omega
                case rel => exact ⟨i + 1, pre ++ [(bt s i : Int)], by go_num, by omega, rfl, by simp; omega, by rw [evs_keep pre (by omega), List.length_append, List.map_append]; exact hown1, (hbel.alloc hbel.size _).grown hgrow1 (by simp; omega) (fun k hk => (hown.lt k hk).1), HU2⟩
              · have hb14 : ((bt s i : Int) == 14) = false := by rw [beq_eq_false_iff_ne]; omega
                have HU2 : Hid (Upto s (i + 1) (pre ++ [(bt s i : Int)])) := upto_step HU.out (itm_plain hil (by omega) (by omega))
                go_wp2_with fail
                go_roundg (s.size - (i + 1))
                case measure => rw [HG.out]; omega
                case rel => exact ⟨i + 1, pre ++ [(bt s i : Int)], by go_num, by omega, rfl, by simp; omega, by rw [evs_drop pre (by omega) (by omega)]; exact hown, hbel, HU2⟩
    · have hie : i = s.size := by omega
      subst hie
      go_wp2_with fail
      go_ret2
      refine ⟨.inr ⟨pre, _, rfl, ?_, hpl, hown⟩, hbel⟩
      have h := HU.out [] (by show (s.extract s.size s.size).size = 0; simp)
      rw [List.append_nil] at h
      exact h
end Go.Proofs.Qxb6603013a.Items
