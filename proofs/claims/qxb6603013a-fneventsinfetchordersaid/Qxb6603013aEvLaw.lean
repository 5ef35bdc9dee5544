/-
  FnEventsInFetchOrder (function 7): the walk of the law itself.
-/
import Derived.Test.Qxb6603013aEvWalk
namespace Go.Proofs.Qxb6603013a.Ev
open Go.RowKit
open Go.Proofs.Qxb6603013a.Items (Chain evs)

set_option maxHeartbeats 1000000 in
set_option maxRecDepth 100000 in
theorem law_huge (s : ByteArray) (a : Option Addr) (len cap : Nat) (es : List (ByteArray × ByteArray)) (w : World) (hs : s.size ≤ maxLen) (hlen : len ≤ maxLen) (h : EvRow w a len cap es) (hbig : 1048576 < s.size ∨ 65536 < len) :
    Calls Try.prog 7 #[.string s, .slice a len cap] w fun e w' => e = .returned (.bool true) ∧ Below w.heap.size w w' := by
  have HB := bytes_any s a len cap es w hs hlen h
  have hbig' : 1048576 < s.size ∨ (s.size ≤ 1048576 ∧ 65536 < len) := by omega
  unfold maxLen at hs hlen
  clear hbig
  rcases hbig' with hb1 | ⟨hb0, hb1⟩
  all_goals
    go_enter Try.func7, Try.ntmps7
    go_wp2_with fail
    refine HB.mono ?_
    rintro e w' ⟨⟨bb, rfl⟩, rfl⟩
    cases bb
    all_goals
      go_wp2_with fail
      go_ret
      exact ⟨rfl, Below.refl _ _⟩

/-- The law's own list of events. -/
structure Lst (w2 wx : World) (ea : Option Addr) (len : Nat) (es : List (ByteArray × ByteArray)) : Prop where
  nil : ea = none → len = 0
  addr : 0 < len → ea = some ⟨w2.heap.size, 0, none⟩
  lt : 0 < len → w2.heap.size < wx.heap.size
  cell0 : ∀ j, j < len → wx.cell? ⟨w2.heap.size, j * 2, none⟩ = some (.string (es.getD j (⟨#[]⟩, ⟨#[]⟩)).1)
  cell1 : ∀ j, j < len → wx.cell? ⟨w2.heap.size, j * 2 + 1, none⟩ = some (.string (es.getD j (⟨#[]⟩, ⟨#[]⟩)).2)
  below : Below w2.heap.size w2 wx

set_option maxHeartbeats 2000000 in
set_option maxRecDepth 100000 in
theorem law_in (s : ByteArray) (a : Option Addr) (len cap : Nat) (es : List (ByteArray × ByteArray)) (w : World) (hs : s.size ≤ 1048576) (hlen : len ≤ 65536) (h : EvRow w a len cap es) :
    Calls Try.prog 7 #[.string s, .slice a len cap] w fun e w' => e = .returned (.bool true) ∧ Below w.heap.size w w' := by
  have HB := bytes_any s a len cap es w (by unfold maxLen; omega) (by unfold maxLen; omega) h
  have n34 : ∀ (w : World) (a : Option Addr) (n c n' c' : Nat), (binOp .neq 34 (.slice a n c) (.slice none n' c')).run Try.prog w = .ok (.bool (!a.isNone)) w := fun w a n c n' c' => run_neq_slice_nil_any w _ _ a n c n' c' Try.underlying34
  have q41 : ∀ (w : World) (a : Option Addr) (n c n' c' : Nat), (binOp .eql 41 (.slice a n c) (.slice none n' c')).run Try.prog w = .ok (.bool a.isNone) w := fun w a n c n' c' => Lib.run_eql_slice_nil w _ _ a n c n' c' Try.underlying41
  obtain ⟨i0, hi, hz0, hz1, hz2⟩ := info_parts info43
  go_enter Try.func7, Try.ntmps7
  go_wp2_with fail
  refine HB.mono ?_
  rintro e w0 ⟨⟨bb, rfl⟩, hww⟩
  subst hww
  cases bb with
  | false =>
    go_wp2_with fail
    go_ret
    exact ⟨rfl, Below.refl _ _⟩
  | true =>
    clear HB
    have hd1 : decide ((1048576 : Int) < (s.size : Int)) = false := decide_eq_false (by omega)
    have hd2 : decide ((65536 : Int) < (len : Int)) = false := decide_eq_false (by omega)
    go_upto_block 0 with fail
    go_cut [5, 6] (fun z i wx => ∃ Z, z = .int .i64 Z ∧ Below w0.heap.size w0 wx)
    case first =>
      go_wp2_with fail
      go_loopg [5, 6] len (fun gk z i wr => ∃ (k : Nat) (Z : Int), k ≤ len ∧ Hid (gk = len - k) ∧ i = .int .i64 k ∧ z = .int .i64 Z ∧ Below w0.heap.size w0 wr)
      case atStart => exact ⟨0, _, Nat.zero_le _, rfl, rfl, rfl, Below.refl _ _⟩
      case round =>
        obtain ⟨k, Z, hk, HG, rfl, rfl, hbel⟩ := hrel
        by_cases hlt : k < len
        · obtain ⟨b, off, rfl, hb, hc0, hc1⟩ := h.at_ (by omega)
          have hcell0 := (hbel.cell (p := ⟨b, off + k * 2, none⟩) hb).trans (hc0 k hlt)
          have hcell1 := (hbel.cell (p := ⟨b, off + k * 2 + 1, none⟩) hb).trans (hc1 k hlt)
          have hke : k < es.length := by rw [h.leng]; exact hlt
          clear hc0 hc1 h
          go_wp2_with fail
          go_region
          all_goals go_wp2_with fail
          · go_ret
            exact ⟨rfl, hbel.drew⟩
          · go_roundg (len - (k + 1))
            case measure => rw [HG.out]; omega
            case rel => exact ⟨k + 1, _, by omega, rfl, by go_num, rfl, hbel.drew⟩
        · go_wp2_with fail
          go_meet
          exact ⟨_, rfl, hbel⟩
    case rest =>
      obtain ⟨Z, rfl, hbel⟩ := hcut
      have hrow := h.later hbel
      clear h
      by_cases hZ : 1048576 < Z
      · go_wp2_with fail
        go_ret
        exact ⟨rfl, hbel⟩
      · have HK := Items.kinds_any s wc hs
        go_wp2_with fail
        refine HK.mono ?_
        rintro e w1 ⟨rfl | ⟨ks, v, rfl, hch, hkl, hown⟩, hbel1⟩
        · go_wp2_with fail
          go_ret
          exact ⟨rfl, hbel.trans (hbel1.mono hbel.size)⟩
        · obtain ⟨va, vc, rfl, hkr⟩ := krow_of hown
          have hrow1 := hrow.later hbel1
          have hbel2 := hbel.trans (hbel1.mono hbel.size)
          have HCH : Hid (Chain s ks) := hch
          have hkn : (evs ks).length ≤ 1048576 := by have := Items.evs_len ks; omega
          clear HK hown hrow hbel hbel1 hch hZ
          obtain ⟨K, hK⟩ : ∃ K, K = evs ks := ⟨_, rfl⟩
          rw [← hK] at hkr hkn ⊢
          have HKE : Hid (K = evs ks) := hK
          clear hK
          obtain ⟨n, hn⟩ : ∃ n, n = K.length := ⟨_, rfl⟩
          rw [← hn] at hkr hkn ⊢
          have HN : Hid (n = K.length) := hn
          clear hn
          go_upto_block 2 with fail
          go_cut [9, 10] (fun sd i wx => sd = .int .i64 (c13 K : Nat) ∧ w1 = wx)
          case first =>
            go_wp2_with fail
            go_loopg [9, 10] n (fun gk sd i wr => ∃ (k : Nat), k ≤ n ∧ Hid (gk = n - k) ∧ i = .int .i64 k ∧ sd = .int .i64 (c13 (K.take k) : Nat) ∧ w1 = wr)
            case atStart => exact ⟨0, Nat.zero_le _, rfl, rfl, rfl, rfl⟩
            case round =>
              obtain ⟨k, hk, HG, rfl, rfl, rfl⟩ := hrel
              have hcb := c13_take_le K k
              by_cases hlt : k < n
              · obtain ⟨g, rfl, hg, hc⟩ := hkr.at_ (by omega)
                have hcell := hc k hlt
                have hkK : k < K.length := by have := HN.out; omega
                have hkt := c13_take K k hkK
                by_cases h13 : (K.getD k 0 == 13) = true
                · rw [if_pos (WalkArith.int_eq h13)] at hkt
                  have HT : Hid _ := hkt
                  have h13' : (K[k] == 13) = true := by simpa [List.getD, hkK] using h13
                  clear hc hkt h13
                  go_wp2_with fail
                  go_roundg (n - (k + 1))
                  case measure => rw [HG.out]; omega
                  case rel => exact ⟨k + 1, by omega, rfl, by go_num, by rw [HT.out]; go_num, rfl⟩
                · have h13f : (K.getD k 0 == 13) = false := by simpa using h13
                  rw [if_neg (WalkArith.int_ne h13f)] at hkt
                  have HT : Hid _ := hkt
                  have h13' : (K[k] == 13) = false := by simpa [List.getD, hkK] using h13f
                  clear hc hkt h13 h13f
                  go_wp2_with fail
                  go_roundg (n - (k + 1))
                  case measure => rw [HG.out]; omega
                  case rel => exact ⟨k + 1, by omega, rfl, by go_num, by rw [HT.out]; rfl, rfl⟩
              · go_wp2_with fail
                go_meet
                exact ⟨by rw [List.take_of_length_le (by have := HN.out; omega)], rfl⟩
          case rest =>
            obtain ⟨rfl, rfl⟩ := hcut
            by_cases hcnt : c13 K = len
            · have hcb : ((c13 K : Int) != (len : Int)) = false := by simp; omega
              have HCN : Hid (c13 K = len) := hcnt
              have HCL := clone_row a len cap es w1 hrow1 hlen
              have hleng := hrow1.leng
              have hnil1 := hrow1.nil
              clear hcnt hrow1
              go_wp2_with fail
              refine HCL.mono ?_
              rintro e w2 ⟨ta, rfl, hcp⟩
              have HCP : Hid (Copied w1 w2 a ta len es) := hcp
              have hbel3 := hbel2.trans (hcp.below.mono hbel2.size)
              have hkr2 := hkr.later hcp.below
              clear HCL hcp hkr hcb
              go_upto_if 86 with fail
              go_cut [11, 12] (fun ev i wx => ∃ ea, ev = .slice ea len len ∧ Hid (Lst w2 wx ea len es))
              case first =>
                cases a with
                | none =>
                  obtain ⟨rfl, rfl⟩ := hnil1 rfl
                  obtain rfl := HCP.out.nil rfl
                  go_wp2_with fail
                  go_meet
                  exact ⟨none, rfl, ⟨fun _ => rfl, fun h => absurd h (by omega), fun h => absurd h (by omega), fun j h => absurd h (by omega), fun j h => absurd h (by omega), Below.refl _ _⟩⟩
                | some y =>
                  obtain rfl := HCP.out.addr (by simp)
                  have hsz2 := HCP.out.size (by simp)
                  go_wp2_with (at_make; refine wpList_make_full _ rfl _ _ 41 rfl w2.heap.size 43 i0 (.agg #[.string ⟨#[]⟩, .string ⟨#[]⟩]) 2 Try.underlying41 hi hz0 hz1 _ _ _ _ len rfl rfl rfl rfl ?b2 ?b3 (Nat.le_refl _) ?_)
                  case b2 => rw [hz2]; omega
                  case b3 => unfold maxLen; omega
                  intro w3 hown3 hgrow3
                  rw [part_zero es len] at hown3
                  have hbel30 : Below w2.heap.size w2 w3 := (Below.refl _ _).grown hgrow3 (Nat.le_refl _) (fun k h => by cases h)
                  clear hgrow3
                  go_wp2_with fail
                  go_loopg [12] len (fun gk i wr => ∃ k : Nat, k ≤ len ∧ Hid (gk = len - k) ∧ i = .int .i64 k ∧ Hid (wr.ownsRow w2.heap.size 43 2 (.slice (some ⟨w2.heap.size, 0, none⟩) len len) len (part es k len)) ∧ Below w2.heap.size w2 wr)
                  case atStart => exact ⟨0, Nat.zero_le _, rfl, rfl, hown3, hbel30⟩
                  case round =>
                    obtain ⟨k, hk, HG, rfl, HO, hbel⟩ := hrel
                    clear hown3 hbel30
                    by_cases hlt : k < len
                    · have hke : k < es.length := by omega
                      have hcell0 := (hbel.cell (p := ⟨w1.heap.size, k * 2, none⟩) hsz2).trans (HCP.out.cell0 k hlt)
                      have hcell1 := (hbel.cell (p := ⟨w1.heap.size, k * 2 + 1, none⟩) hsz2).trans (HCP.out.cell1 k hlt)
                      have hown := HO.out
                      have hfz0 := hown.frozenAt (k * 2)
                      have hfz1 := hown.frozenAt (k * 2 + 1)
                      have hxl := hown.1
                      obtain ⟨v0, hcc0⟩ : ∃ v, wr.cell? ⟨w2.heap.size, k * 2, none⟩ = some v := by
                        rw [hown.cellAt (k * 2) (by omega)]
                        exact ⟨_, List.getElem?_eq_getElem (by omega)⟩
                      obtain ⟨v1, hcc1⟩ : ∃ v, wr.cell? ⟨w2.heap.size, k * 2 + 1, none⟩ = some v := by
                        rw [hown.cellAt (k * 2 + 1) (by omega)]
                        exact ⟨_, List.getElem?_eq_getElem (by omega)⟩
                      have hst0 := hown.stored (k * 2) (.string es[k].1)
                      have hst1 := hst0.1.stored (k * 2 + 1) (.string es[k].2)
                      rw [part_set es k len hlt hleng hke] at hst1
                      have HS1 : Hid _ := hst1.1
                      have hkI : (k : Int) < (len : Int) := by omega
                      clear hxl hown hst0 hst1
                      go_wp2_with fail
                      go_region
                      all_goals go_wp2_with fail
                      go_roundg (len - (k + 1))
                      case measure => rw [HG.out]; omega
                      case rel => exact ⟨k + 1, by omega, rfl, by go_num, World.ownsRow.drew HS1.out, ((hbel.setCell (p := ⟨w2.heap.size, k * 2, none⟩) (Nat.le_refl _) _).setCell (p := ⟨w2.heap.size, k * 2 + 1, none⟩) (Nat.le_refl _) _).drew⟩
                    · have hkl' : k = len := by omega
                      have hown := HO.out
                      rw [hkl', part_full es len hleng] at hown
                      have hlst : Lst w2 wr (some ⟨w2.heap.size, 0, none⟩) len es := by
                        refine ⟨(fun h => by cases h), fun _ => rfl, fun _ => (hown.lt w2.heap.size rfl).2, fun j hj => ?_, fun j hj => ?_, hbel⟩
                        · rw [hown.cellAt (j * 2) (by omega), flat_fst es j (by omega)]
                        · rw [hown.cellAt (j * 2 + 1) (by omega), flat_snd es j (by omega)]
                      have HLL : Hid _ := hlst
                      clear hlst hown HO hkl'
                      go_wp2_with fail
                      go_meet
                      exact ⟨_, rfl, HLL.out⟩
              case rest =>
                obtain ⟨ea, rfl, HLS⟩ := hcut
                have hbel4 := hbel3.trans (HLS.out.below.mono hbel3.size)
                have hkr3 := hkr2.later HLS.out.below
                clear hkr2
                have HOB := obj_any s ea len len wc
                go_wp2_with fail
                refine HOB.mono ?_
                rintro e w5 ⟨rfl, hb5⟩
                have HEV := events_any s ks ea len w2.heap.size es w5 hs HCH.out (by omega) hlen hleng (by rw [← c13_evs, ← HKE.out]; exact HCN.out) HLS.out.nil HLS.out.addr (fun h => Nat.lt_of_lt_of_le (HLS.out.lt h) hb5.size)
                  (fun j hj => (hb5.cell (p := ⟨w2.heap.size, j * 2, none⟩) (HLS.out.lt (by omega))).trans (HLS.out.cell0 j hj)) (fun j hj => (hb5.cell (p := ⟨w2.heap.size, j * 2 + 1, none⟩) (HLS.out.lt (by omega))).trans (HLS.out.cell1 j hj))
                rw [← HKE.out, ← HN.out] at HEV
                go_wp2_with fail
                refine HEV.mono ?_
                rintro e w6 ⟨x, c, rfl, hgot, hb6⟩
                have hb56 := hb5.trans (hb6.mono hb5.size)
                have hkr4 := hkr3.later hb56
                have hbel5 := hbel4.trans (hb56.mono hbel4.size)
                have HEV0 : Hid (∀ j, j < len → ta = some ⟨w1.heap.size, 0, none⟩ ∧ w1.heap.size < w6.heap.size ∧ w6.cell? ⟨w1.heap.size, j * 2, none⟩ = some (.string (es.getD j (⟨#[]⟩, ⟨#[]⟩)).1) ∧ w6.cell? ⟨w1.heap.size, j * 2 + 1, none⟩ = some (.string (es.getD j (⟨#[]⟩, ⟨#[]⟩)).2)) := by
                  intro j hj
                  have hane : a ≠ none := fun e => by have := (hnil1 e).1; omega
                  have h1 := HCP.out.size hane
                  have h2 := HLS.out.below.size
                  have h3 := hb56.size
                  refine ⟨HCP.out.addr hane, by omega, ?_, ?_⟩
                  · rw [hb56.cell (p := ⟨w1.heap.size, j * 2, none⟩) (by show w1.heap.size < _; omega), HLS.out.below.cell (p := ⟨w1.heap.size, j * 2, none⟩) h1]; exact HCP.out.cell0 j hj
                  · rw [hb56.cell (p := ⟨w1.heap.size, j * 2 + 1, none⟩) (by show w1.heap.size < _; omega), HLS.out.below.cell (p := ⟨w1.heap.size, j * 2 + 1, none⟩) h1]; exact HCP.out.cell1 j hj
                clear HOB HEV hkr3 hb5 hb6
                go_wp2_with fail
                go_loopg [14, 15] n (fun gk j i wr => ∃ k : Nat, k ≤ n ∧ Hid (gk = n - k) ∧ i = .int .i64 k ∧ j = .int .i64 (c13 (K.take k) : Nat) ∧ Below w6.heap.size w6 wr)
                case atStart => exact ⟨0, Nat.zero_le _, rfl, rfl, rfl, Below.refl _ _⟩
                case round =>
                  obtain ⟨k, hk, HG, rfl, rfl, hbr⟩ := hrel
                  by_cases hlt : k < n
                  · have hn0 : 0 < n := by omega
                    obtain ⟨gk1, rfl, hgl, hkc⟩ := hkr4.at_ hn0
                    obtain ⟨gg, rfl, hggl, hg0, hg1⟩ := hgot.at_ hn0
                    have hkK : k < K.length := by have := HN.out; omega
                    have hcK := (hbr.cell (p := ⟨gk1, k, none⟩) hgl).trans (hkc k hlt)
                    have hcg0 := (hbr.cell (p := ⟨gg, k * 2, none⟩) hggl).trans (hg0 k hlt)
                    have hcg1 := (hbr.cell (p := ⟨gg, k * 2 + 1, none⟩) hggl).trans (hg1 k hlt)
                    have hkind := evs_kind ks k (by rw [← HKE.out]; exact hkK)
                    rw [← HKE.out] at hkind
                    have hkt := c13_take K k hkK
                    have hle1 := c13_take_le' K (k + 1)
                    have hcn := HCN.out
                    rw [outs_at K es k hkK] at hcg0 hcg1
                    clear hkc hg0 hg1
                    rcases hkind with h13 | h14
                    · have h14b : (K[k] == 14) = false := by rw [beq_eq_false_iff_ne]; simp [List.getD, hkK] at h13; omega
                      rw [if_pos h13] at hkt hcg0 hcg1
                      obtain ⟨J, hJ⟩ : ∃ J, J = c13 (K.take k) := ⟨_, rfl⟩
                      rw [← hJ] at hkt hcg0 hcg1 ⊢
                      have hJl : J < len := by omega
                      obtain ⟨rfl, hw1l, hev0, hev1⟩ := HEV0.out J hJl
                      have hce0 := (hbr.cell (p := ⟨w1.heap.size, J * 2, none⟩) hw1l).trans hev0
                      have hce1 := (hbr.cell (p := ⟨w1.heap.size, J * 2 + 1, none⟩) hw1l).trans hev1
                      have HT : Hid (c13 (K.take (k + 1)) = J + 1) := hkt
                      rcases hE : es.getD J (⟨#[]⟩, ⟨#[]⟩) with ⟨t1, t2⟩
                      rw [hE] at hcg0 hcg1 hce0 hce1
                      simp only at hcg0 hcg1 hce0 hce1
                      have hJI : (J : Int) < (len : Int) := by omega
                      have hkI : (k : Int) < (n : Int) := by omega
                      clear hE hev0 hev1 hkt hle1 hcn h13 hJ
                      go_wp2_with fail
                      go_quiet (fail)
                      go_wp2_with fail
                      go_roundg (n - (k + 1))
                      case measure => rw [HG.out]; omega
                      case rel => exact ⟨k + 1, by omega, rfl, by go_num, by rw [HT.out]; go_num, below_drewN hbr _⟩
                    · have h14b : (K[k] == 14) = true := by simp [List.getD, hkK] at h14; simp [h14]
                      rw [if_neg (by omega)] at hkt hcg0 hcg1
                      have HT : Hid _ := hkt
                      clear hkt hle1 hcn h14
                      go_wp2_with fail
                      go_roundg (n - (k + 1))
                      case measure => rw [HG.out]; omega
                      case rel => exact ⟨k + 1, by omega, rfl, by go_num, by rw [HT.out]; rfl, hbr⟩
                  · go_wp2_with fail
                    go_ret
                    exact ⟨rfl, hbel5.trans (hbr.mono hbel5.size)⟩
            · have hcb : ((c13 K : Int) != (len : Int)) = true := by simp; omega
              go_wp2_with fail
              go_ret
              exact ⟨rfl, hbel2⟩
end Go.Proofs.Qxb6603013a.Ev
