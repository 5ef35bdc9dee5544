/-
  parseNumberPrefix (function 15): its contract.
-/
import Derived.Test.Qxb6603013aRun
import Derived.Deep.DeepCutAuto
import Derived.Deep.CutBlock
namespace Go.Proofs.Qxb6603013a.Step
open Go.RowKit

theorem stp_zero (k : Nat) {c : Int} (hk : k ≤ 1) (h : c = 48) : stp k c = (2, true) := by
  unfold stp; repeat (first | rw [if_pos (by omega)] | rw [if_neg (by omega)])

theorem stp_bad (k : Nat) (c : Int) (hk : k ≤ 1) (h : c < 48 ∨ (48 ≤ c ∧ 57 < c)) (h' : k = 0 → ¬ c = 45) : stp k c = ((k : Int), false) := by
  unfold stp; repeat (first | rw [if_pos (by omega)] | rw [if_neg (by omega)])

theorem stp_int (k m : Nat) (q : Int) {c : Int} (hk : k ≤ 1) (hq : (m = k ∧ q = k) ∨ (k < m ∧ q = 3)) (hne : m = k → ¬ c = 48) (h1 : 48 ≤ c) (h2 : c ≤ 57) : stp q c = (3, true) := by
  unfold stp; repeat (first | rw [if_pos (by omega)] | rw [if_neg (by omega)])

theorem stp_dot (q : Int) {c : Int} (hq : q = 2 ∨ q = 3) (h : c = 46) : stp q c = (4, true) := by
  unfold stp; repeat (first | rw [if_pos (by omega)] | rw [if_neg (by omega)])

theorem stp_e (q c : Int) (hq : q = 2 ∨ q = 3) (h : ¬ c = 46) (hn : q = 3 → ¬ (48 ≤ c ∧ c ≤ 57)) : c = 101 ∨ c = 69 ∨ stp q c = (q, false) := by
  by_cases h1 : c = 101
  · exact .inl h1
  · by_cases h2 : c = 69
    · exact .inr (.inl h2)
    · refine .inr (.inr ?_)
      unfold stp; repeat (first | rw [if_pos (by omega)] | rw [if_neg (by omega)])

theorem stp_frac (q : Int) {c : Int} (hq : q = 4 ∨ q = 5) (h1 : 48 ≤ c) (h2 : c ≤ 57) : stp q c = (5, true) := by
  unfold stp; repeat (first | rw [if_pos (by omega)] | rw [if_neg (by omega)])

theorem stp_nofrac (c : Int) (h : ¬ (48 ≤ c ∧ c ≤ 57)) : stp 4 c = (4, false) := by
  unfold stp; repeat (first | rw [if_pos (by omega)] | rw [if_neg (by omega)])

theorem stp_e5 (c : Int) (hn : ¬ (48 ≤ c ∧ c ≤ 57)) : c = 101 ∨ c = 69 ∨ stp 5 c = (5, false) := by
  by_cases h1 : c = 101
  · exact .inl h1
  · by_cases h2 : c = 69
    · exact .inr (.inl h2)
    · refine .inr (.inr ?_)
      unfold stp; repeat (first | rw [if_pos (by omega)] | rw [if_neg (by omega)])

theorem stp_expo (q : Int) {c : Int} (hq : q = 2 ∨ q = 3 ∨ q = 5) (h : c = 101 ∨ c = 69) : stp q c = (6, true) := by
  unfold stp; repeat (first | rw [if_pos (by omega)] | rw [if_neg (by omega)])

theorem stp_sign {c : Int} (h : c = 43 ∨ c = 45) : stp 6 c = (7, true) := by
  unfold stp; repeat (first | rw [if_pos (by omega)] | rw [if_neg (by omega)])

theorem stp_exp (q : Int) {c : Int} (hq : q = 6 ∨ q = 7 ∨ q = 8) (h1 : 48 ≤ c) (h2 : c ≤ 57) : stp q c = (8, true) := by
  unfold stp; repeat (first | rw [if_pos (by omega)] | rw [if_neg (by omega)])

theorem stp_noexp (q c : Int) (hq : q = 6 ∨ q = 7 ∨ q = 8) (h6 : q = 6 → ¬ c = 43 ∧ ¬ c = 45) (h : ¬ (48 ≤ c ∧ c ≤ 57)) : stp q c = (q, false) := by
  unfold stp; repeat (first | rw [if_pos (by omega)] | rw [if_neg (by omega)])

theorem or_eq {c x y : Int} (h : (c == x) = true ∨ (c == y) = true) : c = x ∨ c = y := by
  rcases h with h | h
  · exact .inl (WalkArith.int_eq h)
  · exact .inr (WalkArith.int_eq h)

set_option maxHeartbeats 1000000 in
set_option maxRecDepth 100000 in
theorem parse_some (b off len cap : Nat) (zs : List Int) (w : World) (h0 : 0 < len) (hl : len ≤ 9223372036854775806) (hz : len ≤ zs.length)
    (hc : ∀ j, j < len → w.cell? ⟨b, off + j, none⟩ = some (.int .u8 (zs.getD j 0))) :
    Calls Try.prog 15 #[.slice (some ⟨b, off, none⟩) len cap] w fun e w' => e = .returned (.tuple #[.int .i64 (ans (run (zs.take len) 0)).1, .bool (ans (run (zs.take len) 0)).2]) ∧ w' = w := by
  obtain ⟨A, hA⟩ : ∃ A, A = ans (run (zs.take len) 0) := ⟨_, rfl⟩
  rw [← hA]
  have HA : Hid (A = ans (run ((zs.take len).drop 0) 0)) := hA
  clear hA
  have hc0 : w.cell? ⟨b, off, none⟩ = some (.int .u8 (zs.getD 0 0)) := hc 0 h0
  go_enter Try.func15, Try.ntmps15
  go_upto_if 16 with fail
  go_cut [4] (fun i wx => ∃ k : Nat, i = .int .i64 k ∧ k ≤ 1 ∧ w = wx ∧ Hid (A = ans (run ((zs.take len).drop k) k)) ∧ (k = 0 → ¬ zs[k]?.getD 0 = 45))
  case first =>
    by_cases h45 : (zs[0]?.getD 0 == 45) = true
    · go_wp2_with fail
      go_meet
      exact ⟨1, rfl, by omega, rfl, by rw [HA.out, run_go h0 hz (q' := 1) (by rw [WalkArith.int_eq h45]; rfl)]; exact rfl, fun h => absurd h (by omega)⟩
    · have h45' : (zs[0]?.getD 0 == 45) = false := by simpa using h45
      go_wp2_with fail
      go_meet
      exact ⟨0, rfl, by omega, rfl, HA, fun _ => WalkArith.int_ne h45'⟩
  case rest =>
    obtain ⟨k, rfl, hk, rfl, HB, hne⟩ := hcut
    clear hc0 HA
    by_cases hkl : k = len
    · have hk1 : k = 1 := by omega
      subst hk1
      clear hc hne
      have hb1 : ((1 : Int) == (len : Int)) = true := by simp; omega
      go_wp2_with fail
      go_ret2
      exact ⟨ret_pair (by rw [HB.out, run_end (by omega)]; rfl), rfl⟩
    · have hklt : k < len := by omega
      have hb1 : ((k : Int) == (len : Int)) = false := by simp; omega
      have hck := hc k hklt
      go_upto_if 29 with fail
      go_cut [4, 5] (fun i s wx => ∃ (m : Nat) (q : Int), i = .int .i64 m ∧ s = .int .i64 q ∧ w = wx ∧ m ≤ len ∧ (q = 2 ∨ q = 3) ∧ Hid (A = ans (run ((zs.take len).drop m) q)) ∧ (q = 3 → m < len → ¬ (48 ≤ zs[m]?.getD 0 ∧ zs[m]?.getD 0 ≤ 57)))
      case first =>
        by_cases h48 : (zs[k]?.getD 0 == 48) = true
        · go_wp2_with fail
          go_meet
          exact ⟨k + 1, 2, by go_num, rfl, rfl, by omega, .inl rfl, by rw [HB.out, run_go hklt hz (stp_zero k hk (WalkArith.int_eq h48))]; exact rfl, fun h => absurd h (by omega)⟩
        · have h48' : (zs[k]?.getD 0 == 48) = false := by simpa using h48
          by_cases hdg : 48 ≤ zs[k]?.getD 0 ∧ zs[k]?.getD 0 ≤ 57
          · obtain ⟨hd1, hd2⟩ := hdg
            go_wp2_with (go_at_call 24; go_in)
            have hne48 := WalkArith.int_ne h48'
            go_loop [4] (fun i => ∃ (m : Nat) (q : Int), i = .int .i64 m ∧ m ≤ len ∧ Hid (A = ans (run ((zs.take len).drop m) q)) ∧ ((m = k ∧ q = k) ∨ (k < m ∧ q = 3))) (fun i => len - (intOf i).toNat)
            case atStart => exact ⟨k, k, rfl, by omega, HB, .inl ⟨rfl, rfl⟩⟩
            case round =>
              obtain ⟨m, q, rfl, hm, HM, hq⟩ := hrel
              have HQ : Hid ((m = k ∧ q = k) ∨ (k < m ∧ q = 3)) := hq
              clear hq hck HB
              by_cases hml : m < len
              · have hcm := hc m hml
                by_cases hdm : 48 ≤ zs[m]?.getD 0 ∧ zs[m]?.getD 0 ≤ 57
                · obtain ⟨hm1, hm2⟩ := hdm
                  go_wp2_with (go_at_call 24; go_in)
                  go_round
                  case rel => exact ⟨m + 1, 3, by go_num, by omega, by rw [HM.out, run_go hml hz (stp_int k m q hk HQ.out (fun e => by subst e; exact hne48) hm1 hm2)]; exact rfl, .inr ⟨by have := HQ.out; omega, rfl⟩⟩
                  case measure => simp [intOf]; omega
                · have hkm : k < m := by
                    rcases HQ.out with ⟨e, _⟩ | ⟨e, _⟩
                    · subst e; exact absurd ⟨hd1, hd2⟩ hdm
                    · exact e
                  have hlo : zs[m]?.getD 0 < 48 ∨ (48 ≤ zs[m]?.getD 0 ∧ 57 < zs[m]?.getD 0) := by omega
                  clear hdm
                  rcases hlo with hlo | ⟨hlo, hlo'⟩
                  all_goals
                    go_wp2_with (go_at_call 24; go_in)
                  all_goals
                    go_meet
                    exact ⟨m, 3, rfl, rfl, rfl, hm, .inr rfl, by have h3 : q = 3 := (by have := HQ.out; omega); subst h3; exact HM, fun _ _ h => by omega⟩
              · have hkm : k < m := by omega
                go_wp2_with (go_at_call 24; go_in)
                go_meet
                exact ⟨m, 3, rfl, rfl, rfl, hm, .inr rfl, by have h3 : q = 3 := (by have := HQ.out; omega); subst h3; exact HM, fun _ h => absurd h (by omega)⟩
          · have hlo : zs[k]?.getD 0 < 48 ∨ (48 ≤ zs[k]?.getD 0 ∧ 57 < zs[k]?.getD 0) := by omega
            clear hdg
            have hst := stp_bad k (zs[k]?.getD 0) hk hlo hne
            have hend : A = (0, false) := by rw [HB.out, run_stop hklt hz hst]; rfl
            have HE : Hid (A = (0, false)) := hend
            clear hst hend
            rcases hlo with hlo | ⟨hlo, hlo'⟩
            all_goals
              go_wp2_with (go_at_call 24; go_in)
              go_ret2
              exact ⟨ret_pair HE.out, rfl⟩
      case rest =>
        obtain ⟨m, q, rfl, rfl, rfl, hm, hq, HC, hnd⟩ := hcut
        clear HB hne hb1 hklt hkl hk hck
        have HQ : Hid (q = 2 ∨ q = 3) := hq
        have HN : Hid (q = 3 → m < len → ¬ (48 ≤ zs[m]?.getD 0 ∧ zs[m]?.getD 0 ≤ 57)) := hnd
        clear hq hnd
        by_cases hml : m = len
        · subst hml
          go_wp2_with fail
          go_ret2
          exact ⟨ret_pair (by rw [HC.out, run_end (Nat.le_refl _)]; rfl), rfl⟩
        · have hmlt : m < len := by omega
          have hb2 : ((m : Int) == (len : Int)) = false := by simp; omega
          have hcm := hc m hmlt
          go_upto_if 59 with fail
          go_cut [4] (fun i wx => ∃ (p : Nat) (q : Int), i = .int .i64 p ∧ w = wx ∧ p < len ∧ Hid (q = 2 ∨ q = 3 ∨ q = 5) ∧ Hid (A = ans (run ((zs.take len).drop p) q)) ∧ Hid (zs[p]?.getD 0 = 101 ∨ zs[p]?.getD 0 = 69 ∨ stp q (zs[p]?.getD 0) = (q, false)))
          case first =>
            by_cases h46 : (zs[m]?.getD 0 == 46) = true
            · have HD : Hid (A = ans (run ((zs.take len).drop (m + 1)) 4)) := by rw [HC.out, run_go hmlt hz (stp_dot q HQ.out (WalkArith.int_eq h46))]; exact rfl
              clear HC HQ HN
              by_cases hm1 : m + 1 = len
              · have hb3 : ((m : Int) + 1 == (len : Int)) = true := by simp; omega
                go_wp2_with fail
                go_ret2
                exact ⟨ret_pair (by rw [HD.out, run_end (by omega)]; rfl), rfl⟩
              · have hm1' : m + 1 < len := by omega
                have hb3 : ((m : Int) + 1 == (len : Int)) = false := by simp; omega
                have hcm1 := hc (m + 1) hm1'
                by_cases hdg : 48 ≤ zs[m + 1]?.getD 0 ∧ zs[m + 1]?.getD 0 ≤ 57
                · obtain ⟨hd1, hd2⟩ := hdg
                  go_wp2_with (go_at_call 24; go_in)
                  go_loop [4] (fun i => ∃ (t : Nat) (q : Int), i = .int .i64 t ∧ t ≤ len ∧ Hid (A = ans (run ((zs.take len).drop t) q)) ∧ Hid ((t = m + 1 ∧ q = 4) ∨ (m + 1 < t ∧ q = 5))) (fun i => len - (intOf i).toNat)
                  case atStart => exact ⟨m + 1, 4, by go_num, by omega, HD, .inl ⟨rfl, rfl⟩⟩
                  case round =>
                    obtain ⟨t, q, rfl, ht, HM, HQ⟩ := hrel
                    clear hcm hcm1 HD
                    by_cases htl : t < len
                    · have hct := hc t htl
                      by_cases hdt : 48 ≤ zs[t]?.getD 0 ∧ zs[t]?.getD 0 ≤ 57
                      · obtain ⟨ht1, ht2⟩ := hdt
                        go_wp2_with (go_at_call 24; go_in)
                        go_round
                        case rel => exact ⟨t + 1, 5, by go_num, by omega, by rw [HM.out, run_go htl hz (stp_frac q (by have := HQ.out; omega) ht1 ht2)]; exact rfl, .inr ⟨by have := HQ.out; omega, rfl⟩⟩
                        case measure => simp [intOf]; omega
                      · have hmt : m + 1 < t := by
                          rcases HQ.out with ⟨e, _⟩ | ⟨e, _⟩
                          · subst e; exact absurd ⟨hd1, hd2⟩ hdt
                          · exact e
                        have h5 : Hid (q = 5) := by have := HQ.out; show q = 5; omega
                        have HX := stp_e5 (zs[t]?.getD 0) hdt
                        have hlo : zs[t]?.getD 0 < 48 ∨ (48 ≤ zs[t]?.getD 0 ∧ 57 < zs[t]?.getD 0) := by omega
                        have hb4 : ((t : Int) == (len : Int)) = false := by simp; omega
                        have HX' : Hid (zs[t]?.getD 0 = 101 ∨ zs[t]?.getD 0 = 69 ∨ stp 5 (zs[t]?.getD 0) = (5, false)) := HX
                        clear hdt HX
                        rcases hlo with hlo | ⟨hlo, hlo'⟩
                        all_goals
                          go_wp2_with (go_at_call 24; go_in)
                        all_goals
                          go_meet
                          exact ⟨t, 5, rfl, rfl, htl, .inr (.inr rfl), by have h := h5.out; subst h; exact HM, HX'⟩
                    · have h5 : q = 5 := by have := HQ.out; omega
                      subst h5
                      have hb4 : ((t : Int) == (len : Int)) = true := by simp; omega
                      go_wp2_with (go_at_call 24; go_in)
                      go_ret2
                      exact ⟨ret_pair (by rw [HM.out, run_end (by omega)]; rfl), rfl⟩
                · have hst := stp_nofrac (zs[m + 1]?.getD 0) hdg
                  have hlo : zs[m + 1]?.getD 0 < 48 ∨ (48 ≤ zs[m + 1]?.getD 0 ∧ 57 < zs[m + 1]?.getD 0) := by omega
                  have hend : A = (0, false) := by rw [HD.out, run_stop hm1' hz hst]; rfl
                  have HE : Hid (A = (0, false)) := hend
                  clear hst hend hdg
                  rcases hlo with hlo | ⟨hlo, hlo'⟩
                  · go_wp2_with (go_at_call 24; go_in)
                    go_ret2
                    exact ⟨ret_pair HE.out, rfl⟩
                  · have hb57 : (!decide (zs[m + 1]?.getD 0 ≤ 57)) = true := by simp; omega
                    go_wp2_with (go_at_call 24; go_in)
                    go_ret2
                    exact ⟨ret_pair HE.out, rfl⟩
            · have h46' : (zs[m]?.getD 0 == 46) = false := by simpa using h46
              go_wp2_with fail
              go_meet
              exact ⟨m, q, rfl, rfl, hmlt, by have := HQ.out; show q = 2 ∨ q = 3 ∨ q = 5; omega, HC, stp_e q _ HQ.out (WalkArith.int_ne h46') (fun h => HN.out h hmlt)⟩
          case rest =>
            obtain ⟨p, q, rfl, rfl, hp, HQ5, HE, HX⟩ := hcut
            clear HC HQ HN hcm hb2 hmlt hml hm
            have hcp := hc p hp
            by_cases hee : (zs[p]?.getD 0 == 101) = true ∨ (zs[p]?.getD 0 == 69) = true
            · have HF : Hid (A = ans (run ((zs.take len).drop (p + 1)) 6)) := by
                rw [HE.out, run_go hp hz (stp_expo q HQ5.out (or_eq hee))]; exact rfl
              clear HE HX HQ5
              have hee2 : (zs[p]?.getD 0 == 101) = true ∨ ((zs[p]?.getD 0 == 101) = false ∧ (zs[p]?.getD 0 == 69) = true) := by
                rcases hee with h | h
                · exact .inl h
                · refine .inr ⟨?_, h⟩
                  rw [WalkArith.int_eq h]; rfl
              clear hee
              go_upto_region 29 with fail
              go_cut [100] (fun t wx => t = .bool true ∧ w = wx)
              case first =>
                rcases hee2 with he1 | ⟨he1, he2⟩
                all_goals
                  go_wp2_with fail
                  go_meet
                  exact ⟨rfl, rfl⟩
              case rest =>
                obtain ⟨rfl, rfl⟩ := hcut
                clear hee2
                by_cases hp1 : p + 1 = len
                · have hb5 : ((p : Int) + 1 == (len : Int)) = true := by simp; omega
                  have HZ : Hid (A = (6, true)) := by show A = (6, true); rw [HF.out, run_end (by omega)]; rfl
                  go_wp2_with fail
                  go_ret2
                  exact ⟨ret_pair HZ.out, rfl⟩
                · have hb5 : ((p : Int) + 1 == (len : Int)) = false := by simp; omega
                  have hp1' : p + 1 < len := by omega
                  have hcp1 := hc (p + 1) hp1'
                  go_upto_region 33 with fail
                  go_cut [118] (fun t wx => ∃ sg : Bool, t = .bool sg ∧ w = wx ∧ Hid (sg = true → zs[p + 1]?.getD 0 = 43 ∨ zs[p + 1]?.getD 0 = 45) ∧ Hid (sg = false → ¬ zs[p + 1]?.getD 0 = 43 ∧ ¬ zs[p + 1]?.getD 0 = 45))
                  case first =>
                    by_cases hs1 : (zs[p + 1]?.getD 0 == 43) = true
                    · go_wp2_with fail
                      go_meet
                      exact ⟨true, rfl, rfl, fun _ => .inl (WalkArith.int_eq hs1), fun h => by cases h⟩
                    · have hs1' : (zs[p + 1]?.getD 0 == 43) = false := by simpa using hs1
                      by_cases hs2 : (zs[p + 1]?.getD 0 == 45) = true
                      · go_wp2_with fail
                        go_meet
                        exact ⟨true, rfl, rfl, fun _ => .inr (WalkArith.int_eq hs2), fun h => by cases h⟩
                      · have hs2' : (zs[p + 1]?.getD 0 == 45) = false := by simpa using hs2
                        go_wp2_with fail
                        go_meet
                        exact ⟨false, rfl, rfl, (fun h => by cases h), fun _ => ⟨WalkArith.int_ne hs1', WalkArith.int_ne hs2'⟩⟩
                  case rest =>
                    obtain ⟨sg, rfl, rfl, HS1, HS2⟩ := hcut
                    go_upto_if 118 with fail
                    go_cut [4] (fun i wx => ∃ (r : Nat) (q : Int), i = .int .i64 r ∧ w = wx ∧ r < len ∧ Hid (A = ans (run ((zs.take len).drop r) q)) ∧ Hid (q = 6 ∨ q = 7 ∨ q = 8) ∧ Hid (q = 6 → ¬ zs[r]?.getD 0 = 43 ∧ ¬ zs[r]?.getD 0 = 45))
                    case first =>
                      cases sg with
                      | true =>
                        have HG : Hid (A = ans (run ((zs.take len).drop (p + 1 + 1)) 7)) := by rw [HF.out, run_go hp1' hz (stp_sign (HS1.out rfl))]; exact rfl
                        clear HF
                        by_cases hp2 : p + 1 + 1 = len
                        · have hb6 : ((p : Int) + 1 + 1 == (len : Int)) = true := by simp; omega
                          go_wp2_with fail
                          go_ret2
                          exact ⟨ret_pair (by rw [HG.out, run_end (by omega)]; rfl), rfl⟩
                        · have hb6 : ((p : Int) + 1 + 1 == (len : Int)) = false := by simp; omega
                          go_wp2_with fail
                          go_meet
                          exact ⟨p + 1 + 1, 7, by go_num, rfl, by omega, HG, .inr (.inl rfl), fun h => absurd h (by omega)⟩
                      | false =>
                        have HN' : Hid (¬ zs[p + 1]?.getD 0 = 43 ∧ ¬ zs[p + 1]?.getD 0 = 45) := HS2.out rfl
                        go_wp2_with fail
                        go_meet
                        exact ⟨p + 1, 6, by go_num, rfl, by omega, HF, .inl rfl, fun _ => HN'.out⟩
                    case rest =>
                      obtain ⟨r, q, rfl, rfl, hr, HG, HQ6, HN6⟩ := hcut
                      clear HF HS1 HS2 hcp1 hcp hb5
                      have hcr := hc r hr
                      by_cases hdg : 48 ≤ zs[r]?.getD 0 ∧ zs[r]?.getD 0 ≤ 57
                      · obtain ⟨hd1, hd2⟩ := hdg
                        go_wp2_with (go_at_call 24; go_in)
                        go_loop [4] (fun i => ∃ (t : Nat) (q : Int), i = .int .i64 t ∧ t ≤ len ∧ Hid (A = ans (run ((zs.take len).drop t) q)) ∧ Hid ((t = r ∧ (q = 6 ∨ q = 7 ∨ q = 8)) ∨ (r < t ∧ q = 8))) (fun i => len - (intOf i).toNat)
                        case atStart => exact ⟨r, q, rfl, by omega, HG, .inl ⟨rfl, HQ6.out⟩⟩
                        case round =>
                          obtain ⟨t, q, rfl, ht, HM, HQ⟩ := hrel
                          clear hcr HG HQ6 HN6
                          by_cases htl : t < len
                          · have hct := hc t htl
                            by_cases hdt : 48 ≤ zs[t]?.getD 0 ∧ zs[t]?.getD 0 ≤ 57
                            · obtain ⟨ht1, ht2⟩ := hdt
                              go_wp2_with (go_at_call 24; go_in)
                              go_round
                              case rel => exact ⟨t + 1, 8, by go_num, by omega, by rw [HM.out, run_go htl hz (stp_exp q (by have := HQ.out; omega) ht1 ht2)]; exact rfl, .inr ⟨by have := HQ.out; omega, rfl⟩⟩
                              case measure => simp [intOf]; omega
                            · have hmt : r < t := by
                                rcases HQ.out with ⟨e, _⟩ | ⟨e, _⟩
                                · subst e; exact absurd ⟨hd1, hd2⟩ hdt
                                · exact e
                              have h8 : q = 8 := by have := HQ.out; omega
                              have hst := stp_noexp q (zs[t]?.getD 0) (.inr (.inr h8)) (fun h => absurd h (by omega)) hdt
                              have HZ : Hid (A = (0, false)) := by show A = (0, false); rw [HM.out, run_stop htl hz hst]; rfl
                              have hlo : zs[t]?.getD 0 < 48 ∨ (48 ≤ zs[t]?.getD 0 ∧ 57 < zs[t]?.getD 0) := by omega
                              have hb4 : ((t : Int) == (len : Int)) = false := by simp; omega
                              clear hdt hst h8 HM HQ
                              rcases hlo with hlo | ⟨hlo, hlo'⟩
                              all_goals
                                go_wp2_with (go_at_call 24; go_in)
                              all_goals
                                go_ret2
                                exact ⟨ret_pair HZ.out, rfl⟩
                          · have h8 : q = 8 := by have := HQ.out; omega
                            subst h8
                            have hb4 : ((t : Int) == (len : Int)) = true := by simp; omega
                            go_wp2_with (go_at_call 24; go_in)
                            go_ret2
                            exact ⟨ret_pair (by rw [HM.out, run_end (by omega)]; rfl), rfl⟩
                      · have hst := stp_noexp q (zs[r]?.getD 0) HQ6.out HN6.out hdg
                        have HZ : Hid (A = (0, false)) := by show A = (0, false); rw [HG.out, run_stop hr hz hst]; rfl
                        have hlo : zs[r]?.getD 0 < 48 ∨ (48 ≤ zs[r]?.getD 0 ∧ 57 < zs[r]?.getD 0) := by omega
                        clear hst hdg HG HQ6 HN6
                        rcases hlo with hlo | ⟨hlo, hlo'⟩
                        · go_wp2_with (go_at_call 24; go_in)
                          go_ret2
                          exact ⟨ret_pair HZ.out, rfl⟩
                        · have hb57 : (!decide (zs[r]?.getD 0 ≤ 57)) = true := by simp; omega
                          go_wp2_with (go_at_call 24; go_in)
                          go_ret2
                          exact ⟨ret_pair HZ.out, rfl⟩
            · have he1 : (zs[p]?.getD 0 == 101) = false := by simp at hee ⊢; exact hee.1
              have he2 : (zs[p]?.getD 0 == 69) = false := by simp at hee ⊢; exact hee.2
              have hend : A = (0, false) := by
                rw [HE.out]
                rcases HX.out with h | h | h
                · exact absurd h (WalkArith.int_ne he1)
                · exact absurd h (WalkArith.int_ne he2)
                · rw [run_stop hp hz h]; rfl
              have HZ : Hid (A = (0, false)) := hend
              clear hend hee
              go_wp2_with fail
              go_ret2
              exact ⟨ret_pair HZ.out, rfl⟩

set_option maxRecDepth 100000 in
theorem parse_empty (a : Option Addr) (cap : Nat) (w : World) :
    Calls Try.prog 15 #[.slice a 0 cap] w fun e w' => e = .returned (.tuple #[.int .i64 0, .bool true]) ∧ w' = w := by
  go_enter Try.func15, Try.ntmps15
  go_wp2
  go_ret2
  exact ⟨rfl, rfl⟩

/-- Any length, none too. -/
theorem parse_any (b off len cap : Nat) (zs : List Int) (w : World) (hl : len ≤ 9223372036854775806) (hz : len ≤ zs.length)
    (hc : ∀ j, j < len → w.cell? ⟨b, off + j, none⟩ = some (.int .u8 (zs.getD j 0))) :
    Calls Try.prog 15 #[.slice (some ⟨b, off, none⟩) len cap] w fun e w' => e = .returned (.tuple #[.int .i64 (ans (run (zs.take len) 0)).1, .bool (ans (run (zs.take len) 0)).2]) ∧ w' = w := by
  by_cases h : 0 < len
  · exact parse_some b off len cap zs w h hl hz hc
  · obtain rfl : len = 0 := by omega
    exact parse_empty _ cap w
end Go.Proofs.Qxb6603013a.Step
