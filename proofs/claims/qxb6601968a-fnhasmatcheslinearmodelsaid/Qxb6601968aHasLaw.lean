/-
  FnHasMatchesLinearModel (function 7): the walk of the law itself.
-/
import Derived.Test.Qxb6601968aHasRows
import Derived.Deep.DeepCutAuto
import Derived.Deep.CutBlock
import Derived.Deep.QuietTactic
import Derived.BigQuiet
namespace Go.Proofs.Qxb6601968a.Has
open Go.RowKit

theorem adj_step {K : List Int} {k : Nat} (h : ∀ x, x + 1 < k → K.getD x 0 ≤ K.getD (x + 1) 0) (h' : K.getD (k - 1) 0 ≤ K.getD k 0) : ∀ x, x + 1 < k + 1 → K.getD x 0 ≤ K.getD (x + 1) 0 := by
  intro x hx
  rcases Nat.lt_or_ge (x + 1) k with h1 | h1
  · exact h x h1
  · have e : k = x + 1 := by omega
    subst e
    simpa using h'

theorem own_cell {w : World} {base e g n : Nat} {xs : List Value} (h : w.ownsRow base e 1 (.slice (some ⟨g, 0, none⟩) n n) n xs) {k : Nat} (hk : k < n) : ∃ v, w.cell? ⟨g, k, none⟩ = some v := by
  have hl := h.1
  rw [h.cellAt k (by omega)]
  exact ⟨_, List.getElem?_eq_getElem (by omega)⟩

theorem own2_cell {w : World} {base e g n : Nat} {xs : List Value} (h : w.ownsRow base e 2 (.slice (some ⟨g, 0, none⟩) n n) n xs) {k : Nat} (hk : k < n * 2) : ∃ v, w.cell? ⟨g, k, none⟩ = some v := by
  have hl := h.1
  rw [h.cellAt k (by omega)]
  exact ⟨_, List.getElem?_eq_getElem (by omega)⟩

theorem own_below {w w' : World} {base e size n : Nat} {v : Value} {xs : List Value} (h : w.ownsRow base e size v n xs) (hb : Below w.heap.size w w') : w'.ownsRow base e size v n xs :=
  h.kept (row := none) ⟨hb.os, hb.tape, hb.output, hb.size, fun k hk _ => hb.block k hk⟩ (by
    rcases hv : v.ownBlock with _ | k
    · exact .inl rfl
    · exact .inr (by simp))

theorem sp_alloc (w : World) (ma aa pa : Option Addr) (ml mc al ac n pc : Nat) (nd hp : Bool) (port : Int) (dp : ByteArray) :
    SP (w.alloc (Obj.cells #[Value.slice ma ml mc, Value.slice aa al ac, Value.bool nd, Value.int IntKind.u16 port, Value.bool hp, Value.string dp, Value.slice pa n pc] 42)) w.heap.size ma aa pa ml mc al ac n pc nd hp port dp := by
  constructor <;> (rw [World.cell?_alloc_at _ _ _ _ rfl]; rfl)

theorem rep_u16 (n : Nat) : List.replicate n (Value.int .u16 0) = (List.replicate n (0 : Int)).map (Value.int .u16) := by simp

set_option maxHeartbeats 40000000 in
set_option maxRecDepth 100000 in
theorem law_in (a0 a1 a6 : Option Addr) (l0 c0 l1 c1 l6 c6 : Nat) (nd hp : Bool) (port key : Int) (dp : ByteArray) (K : List Int) (V : Nat → Option Addr × Nat × Nat) (w : World)
    (h0 : l0 ≤ 1048576) (h1 : l1 ≤ 1048576) (h6 : l6 ≤ 1048576) (hd : dp.size ≤ 1048576) (hm : MRow w a0 l0) (hs : SRow w a1 l1) (ho : ORow w a6 l6 K V) (hkey : 0 ≤ key ∧ key ≤ 65535) :
    Calls Try.prog 7 #[.slice a0 l0 c0, .slice a1 l1 c1, .bool nd, .int .u16 port, .bool hp, .string dp, .slice a6 l6 c6, .int .u16 key] w fun e w' => e = .returned (.bool true) ∧ Below w.heap.size w w' := by
  have HB := bytes_any a0 a1 a6 l0 c0 l1 c1 l6 c6 nd hp port key dp K V w (by unfold maxLen; omega) (by unfold maxLen; omega) (by unfold maxLen; omega) (by unfold maxLen; omega) hs ho
  have n27 : ∀ (w : World) (a : Option Addr) (n c n' c' : Nat), (binOp .neq 27 (.slice a n c) (.slice none n' c')).run Try.prog w = .ok (.bool (!a.isNone)) w := fun w a n c n' c' => run_neq_slice_nil_any w _ _ a n c n' c' Try.underlying27
  have n28 : ∀ (w : World) (a : Option Addr) (n c n' c' : Nat), (binOp .neq 28 (.slice a n c) (.slice none n' c')).run Try.prog w = .ok (.bool (!a.isNone)) w := fun w a n c n' c' => run_neq_slice_nil_any w _ _ a n c n' c' Try.underlying28
  have n30 : ∀ (w : World) (a : Option Addr) (n c n' c' : Nat), (binOp .neq 30 (.slice a n c) (.slice none n' c')).run Try.prog w = .ok (.bool (!a.isNone)) w := fun w a n c n' c' => run_neq_slice_nil_any w _ _ a n c n' c' Try.underlying30
  have n32 : ∀ (w : World) (a : Option Addr) (n c n' c' : Nat), (binOp .neq 32 (.slice a n c) (.slice none n' c')).run Try.prog w = .ok (.bool (!a.isNone)) w := fun w a n c n' c' => run_neq_slice_nil_any w _ _ a n c n' c' Try.underlying32
  go_enter Try.func7, Try.ntmps7
  go_wp2_with fail
  refine HB.mono ?_
  rintro e w0 ⟨⟨bb, rfl, hV⟩, hww⟩
  subst hww
  cases bb with
  | false =>
    go_wp2_with fail
    go_ret
    exact ⟨rfl, Below.refl _ _⟩
  | true =>
    have HV : Hid (∀ j, j < l6 → (V j).2.1 ≤ 1048576) := hV rfl
    have hd1 : decide ((1048576 : Int) < (l0 : Int)) = false := decide_eq_false (by omega)
    have hd2 : decide ((1048576 : Int) < (l1 : Int)) = false := decide_eq_false (by omega)
    have hd3 : decide ((1048576 : Int) < (l6 : Int)) = false := decide_eq_false (by omega)
    have hd4 : decide ((1048576 : Int) < (dp.size : Int)) = false := decide_eq_false (by omega)
    clear HB hV
    by_cases htot : (1048576 : Int) < 8 * (l0 : Int) + 8 * (l1 : Int) + 8 * (l6 : Int) + (dp.size : Int)
    · go_wp2_with fail
      go_ret
      exact ⟨rfl, Below.refl _ _⟩
    · go_upto_block 0 with fail
      go_cut [17, 18] (fun z i wx => ∃ Z, z = .int .i64 Z ∧ w0 = wx)
      case first =>
        as_aux_lemma =>
          go_wp2_with fail
          go_loopg [17, 18] l1 (fun gk z i wr => ∃ (k : Nat) (Z : Int), k ≤ l1 ∧ Hid (gk = l1 - k) ∧ i = .int .i64 k ∧ z = .int .i64 Z ∧ w0 = wr)
          case atStart => exact ⟨0, _, Nat.zero_le _, rfl, rfl, rfl, rfl⟩
          case round =>
            obtain ⟨k, Z, hk, HG, rfl, rfl, rfl⟩ := hrel
            by_cases hlt : k < l1
            · obtain ⟨b, off, rfl, hb, hc⟩ := hs.at_ (by omega)
              obtain ⟨str, hcell⟩ := hc k hlt
              clear hc hs ho hm htot
              go_wp2_with fail
              · go_ret
                exact ⟨rfl, Below.refl _ _⟩
              · go_roundg (l1 - (k + 1))
                case measure => rw [HG.out]; omega
                case rel => exact ⟨k + 1, _, by omega, rfl, by go_num, rfl, rfl⟩
            · clear hs ho hm htot
              go_wp2_with fail
              go_meet
              exact ⟨_, rfl, rfl⟩
      case rest =>
        obtain ⟨Z1, rfl, rfl⟩ := hcut
        clear htot
        go_upto_block 2 with fail
        go_cut [17, 19] (fun z i wx => ∃ Z, z = .int .i64 Z ∧ w0 = wx)
        case first =>
          as_aux_lemma =>
            go_wp2_with fail
            go_loopg [17, 19] l6 (fun gk z i wr => ∃ (k : Nat) (Z : Int), k ≤ l6 ∧ Hid (gk = l6 - k) ∧ i = .int .i64 k ∧ z = .int .i64 Z ∧ w0 = wr)
            case atStart => exact ⟨0, _, Nat.zero_le _, rfl, rfl, rfl, rfl⟩
            case round =>
              obtain ⟨k, Z, hk, HG, rfl, rfl, rfl⟩ := hrel
              by_cases hlt : k < l6
              · obtain ⟨b, off, rfl, hb, hc0, hc1⟩ := ho.at_ (by omega)
                have hcell := hc1 k hlt
                rcases hVk : V k with ⟨va, vl, vc⟩
                rw [hVk] at hcell
                simp only at hcell
                clear hVk
                clear hc0 hc1 hs ho hm
                go_wp2_with fail
                · go_ret
                  exact ⟨rfl, Below.refl _ _⟩
                · go_roundg (l6 - (k + 1))
                  case measure => rw [HG.out]; omega
                  case rel => exact ⟨k + 1, _, by omega, rfl, by go_num, rfl, rfl⟩
              · clear hs ho hm
                go_wp2_with fail
                go_meet
                exact ⟨_, rfl, rfl⟩
        case rest =>
          obtain ⟨Z2, rfl, rfl⟩ := hcut
          go_upto_block 4 with fail
          go_cut [20] (fun i wx => Hid (∀ x, x + 1 < l6 → K.getD x 0 ≤ K.getD (x + 1) 0) ∧ Below w0.heap.size w0 wx)
          case first =>
            as_aux_lemma =>
              go_wp2_with fail
              go_loopg [20] (l6 - 1) (fun gk i wr => ∃ (k : Nat), 1 ≤ k ∧ (k ≤ l6 ∨ k = 1) ∧ Hid (gk = l6 - k) ∧ i = .int .i64 k ∧ Hid (∀ x, x + 1 < k → K.getD x 0 ≤ K.getD (x + 1) 0) ∧ Below w0.heap.size w0 wr)
              case atStart => exact ⟨1, by omega, .inr rfl, rfl, rfl, (fun x h => absurd h (by omega)), Below.refl _ _⟩
              case round =>
                obtain ⟨k, hk1, hk2, HG, rfl, HS, hbel⟩ := hrel
                by_cases hlt : k < l6
                · obtain ⟨b, off, rfl, hb, hc0, hc1⟩ := ho.at_ (by omega)
                  have hca := (hbel.cell (p := ⟨b, off + k * 2, none⟩) hb).trans (hc0 k hlt)
                  have hcb := (hbel.cell (p := ⟨b, off + (k - 1) * 2, none⟩) hb).trans (hc0 (k - 1) (by omega))
                  obtain ⟨x, hx⟩ : ∃ x, x = K.getD (k - 1) 0 := ⟨_, rfl⟩
                  obtain ⟨y, hy⟩ : ∃ y, y = K.getD k 0 := ⟨_, rfl⟩
                  rw [← hx] at hcb
                  rw [← hy] at hca
                  have HXY : Hid (x = K.getD (k - 1) 0 ∧ y = K.getD k 0) := ⟨hx, hy⟩
                  have hkI : (k : Int) < (l6 : Int) := by omega
                  clear hx hy hc0 hc1 hs ho hm hk2
                  go_wp2_with fail
                  go_quiet (fail)
                  go_wp2_with fail
                  · go_ret
                    exact ⟨rfl, below_drewN hbel _⟩
                  · have hxy : x ≤ y := by assumption
                    go_roundg (l6 - (k + 1))
                    case measure => rw [HG.out]; omega
                    case rel => exact ⟨k + 1, by omega, .inl (by omega), rfl, by go_num, adj_step HS.out (by rw [← HXY.out.1, ← HXY.out.2]; exact hxy), below_drewN hbel _⟩
                · have hall : ∀ x, x + 1 < l6 → K.getD x 0 ≤ K.getD (x + 1) 0 := fun x hx => HS.out x (by omega)
                  have HALL : Hid _ := hall
                  clear hall hs ho hm
                  go_wp2_with fail
                  go_meet
                  exact ⟨HALL.out, hbel⟩
          case rest =>
            obtain ⟨HSO, hbel⟩ := hcut
            have hm1 := hm.later hbel
            have hs1 := hs.later hbel
            have ho1 := ho.later hbel
            have hsort : Sorted K := sorted_of K l6 ho.leng HSO.out
            have HSRT : Hid (Sorted K) := hsort
            clear hm hs ho hsort HSO
            obtain ⟨i29, hi29, hz29a, hz29b, hz29c⟩ := info_parts info29
            obtain ⟨i36, hi36, hz36a, hz36b, hz36c⟩ := info_parts info36
            obtain ⟨i9, hi9, hz9a, hz9b, hz9c⟩ := info_parts info9
            obtain ⟨i5, hi5, hz5a, hz5b, hz5c⟩ := info_parts info5
            obtain ⟨i34, hi34, hz34a, hz34b, hz34c⟩ := info_parts info34
            obtain ⟨i39, hi39, hz39a, hz39b, hz39c⟩ := info_parts info39
            go_upto_if 128 with fail
            go_cut [0, 21, 22] (fun mv x y wx => ∃ ma mc, mv = .slice ma l0 mc ∧ Hid (MRow wx ma l0) ∧ Below wc.heap.size wc wx)
            case first =>
              as_aux_lemma =>
                cases a0 with
                | none =>
                  have hl0 := hm1.nil rfl
                  go_wp2_with fail
                  go_meet
                  exact ⟨_, _, rfl, hm1, Below.refl _ _⟩
                | some y =>
                  go_wp2_with (at_make; refine wpList_make_full _ rfl _ _ 27 rfl wc.heap.size 29 i29 (.int .u16 0) 1 Try.underlying27 hi29 hz29a hz29b _ _ _ _ l0 rfl rfl rfl rfl ?b2 ?b3 (Nat.le_refl _) ?_)
                  case b2 => rw [hz29c]; omega
                  case b3 => unfold maxLen; omega
                  intro w3 hown3 hgrow3
                  rw [toList_madeCells_one, rep_u16] at hown3
                  have hbel3 : Below wc.heap.size wc w3 := (Below.refl _ _).grown hgrow3 (Nat.le_refl _) (fun k h => by cases h)
                  clear hgrow3
                  go_wp2_with fail
                  go_loopg [22] l0 (fun gk i wr => ∃ (k : Nat) (zs : List Int), k ≤ l0 ∧ Hid (gk = l0 - k) ∧ i = .int .i64 k ∧ Hid (wr.ownsRow wc.heap.size 29 1 (.slice (some ⟨wc.heap.size, 0, none⟩) l0 l0) l0 (zs.map (Value.int .u16))) ∧ Below wc.heap.size wc wr)
                  case atStart => exact ⟨0, _, Nat.zero_le _, rfl, rfl, hown3, hbel3⟩
                  case round =>
                    obtain ⟨k, zs, hk, HG, rfl, HO, hbr⟩ := hrel
                    clear hown3 hbel3
                    by_cases hlt : k < l0
                    · obtain ⟨b, off, hy, hb, hc⟩ := hm1.at_ (by omega)
                      cases hy
                      obtain ⟨z, hz⟩ := hc k hlt
                      have hcz := (hbr.cell (p := ⟨b, off + k, none⟩) hb).trans hz
                      have hfz := HO.out.frozenAt k
                      obtain ⟨v, hcc⟩ := own_cell HO.out (by omega)
                      have hst := (HO.out.stored k (.int .u16 z)).1
                      rw [← List.map_set] at hst
                      have HST : Hid _ := hst
                      clear hst hc hz hm1 hs1 ho1
                      go_wp2_with fail
                      go_roundg (l0 - (k + 1))
                      case measure => rw [HG.out]; omega
                      case rel => exact ⟨k + 1, _, by omega, rfl, by go_num, HST.out, hbr.setCell (p := ⟨wc.heap.size, k, none⟩) (Nat.le_refl _) _⟩
                    · have HM : Hid _ := mrow_of HO.out
                      clear hm1 hs1 ho1
                      go_wp2_with fail
                      go_meet
                      exact ⟨_, _, rfl, HM.out, hbr⟩
            case rest =>
              obtain ⟨ma, mc, rfl, HM, hbel1⟩ := hcut
              have hbelA := hbel.trans (hbel1.mono hbel.size)
              have hs2 := hs1.later hbel1
              have ho2 := ho1.later hbel1
              clear hm1 hs1 ho1 hbel hbel1
              go_upto_if 147 with fail
              go_cut [1, 23, 24] (fun av x y wx => ∃ aa ac, av = .slice aa l1 ac ∧ Below wc.heap.size wc wx)
              case first =>
                as_aux_lemma =>
                  cases a1 with
                  | none =>
                    have hl1 := hs2.nil rfl
                    clear hs2 ho2
                    go_wp2_with fail
                    go_meet
                    exact ⟨_, _, rfl, Below.refl _ _⟩
                  | some y =>
                    go_wp2_with (at_make; refine wpList_make_full _ rfl _ _ 28 rfl wc.heap.size 9 i9 (.string ⟨#[]⟩) 1 Try.underlying28 hi9 hz9a hz9b _ _ _ _ l1 rfl rfl rfl rfl ?b2 ?b3 (Nat.le_refl _) ?_)
                    case b2 => rw [hz9c]; omega
                    case b3 => unfold maxLen; omega
                    intro w3 hown3 hgrow3
                    have hbel3 : Below wc.heap.size wc w3 := (Below.refl _ _).grown hgrow3 (Nat.le_refl _) (fun k h => by cases h)
                    have HO3 : Hid _ := hown3
                    clear hgrow3 hown3
                    go_wp2_with fail
                    go_loopg [24] l1 (fun gk i wr => ∃ (k : Nat) (xs : List Value), k ≤ l1 ∧ Hid (gk = l1 - k) ∧ i = .int .i64 k ∧ Hid (wr.ownsRow wc.heap.size 9 1 (.slice (some ⟨wc.heap.size, 0, none⟩) l1 l1) l1 xs) ∧ Below wc.heap.size wc wr)
                    case atStart => exact ⟨0, _, Nat.zero_le _, rfl, rfl, HO3.out, hbel3⟩
                    case round =>
                      obtain ⟨k, xs, hk, HG, rfl, HO, hbr⟩ := hrel
                      clear HO3 hbel3
                      by_cases hlt : k < l1
                      · obtain ⟨b, off, hy, hb, hc⟩ := hs2.at_ (by omega)
                        cases hy
                        obtain ⟨z, hz⟩ := hc k hlt
                        have hcz := (hbr.cell (p := ⟨b, off + k, none⟩) hb).trans hz
                        have hfz := HO.out.frozenAt k
                        obtain ⟨v, hcc⟩ := own_cell HO.out (by omega)
                        have HST : Hid _ := (HO.out.stored k (.string z)).1
                        clear hc hz hs2 ho2
                        go_wp2_with fail
                        go_roundg (l1 - (k + 1))
                        case measure => rw [HG.out]; omega
                        case rel => exact ⟨k + 1, _, by omega, rfl, by go_num, HST.out, hbr.setCell (p := ⟨wc.heap.size, k, none⟩) (Nat.le_refl _) _⟩
                      · clear hs2 ho2
                        go_wp2_with fail
                        go_meet
                        exact ⟨_, _, rfl, hbr⟩
              case rest =>
                obtain ⟨aa, ac, rfl, hbel1⟩ := hcut
                obtain ⟨W6, rfl⟩ : ∃ W6, W6 = wc := ⟨_, rfl⟩
                have hbelB := hbelA.trans (hbel1.mono hbelA.size)
                have ho3 := ho2.later hbel1
                have HM2 : Hid (MRow W6 ma l0) := HM.out.later hbel1
                clear hs2 ho2 hbelA hbel1 HM
                go_upto_if 166 with fail
                go_cut [6, 25, 26, 27, 28] (fun ov x1 x2 x3 x4 wx => ∃ oa oc, ov = .slice oa l6 oc ∧ Hid (oa = none → l6 = 0) ∧ Hid (PRow wx oa l6 K) ∧ Below W6.heap.size W6 wx)
                case first =>
                  as_aux_lemma =>
                    cases a6 with
                    | none =>
                      have hl6 := ho3.nil rfl
                      have HPR : Hid (PRow W6 none l6 K) := ⟨ho3.leng, ho3.range, fun h => absurd h (by omega)⟩
                      have HL6 : Hid (l6 = 0) := hl6
                      clear ho3 hl6
                      go_wp2_with fail
                      go_meet
                      exact ⟨_, _, rfl, fun _ => HL6.out, HPR, Below.refl _ _⟩
                    | some y =>
                      go_wp2_with (at_make; refine wpList_make_full _ rfl _ _ 30 rfl W6.heap.size 34 i34 (.agg #[.int .u16 0, .slice none 0 0]) 2 Try.underlying30 hi34 hz34a hz34b _ _ _ _ l6 rfl rfl rfl rfl ?b2 ?b3 (Nat.le_refl _) ?_)
                      case b2 => rw [hz34c]; omega
                      case b3 => unfold maxLen; omega
                      intro w3 hown3 hgrow3
                      rw [made_pair] at hown3
                      have hbel3 : Below W6.heap.size W6 w3 := (Below.refl _ _).grown hgrow3 (Nat.le_refl _) (fun k h => by cases h)
                      have HO3 : Hid _ := hown3
                      clear hgrow3 hown3
                      go_wp2_with fail
                      go_loopg [26] l6 (fun gk i wr => ∃ (k : Nat) (P : List (Value × Value)), k ≤ l6 ∧ Hid (gk = l6 - k) ∧ i = .int .i64 k ∧ Hid (P.length = k) ∧ Hid (GoodP K P) ∧ Hid (wr.ownsRow W6.heap.size 34 2 (.slice (some ⟨W6.heap.size, 0, none⟩) l6 l6) l6 (part2 P (.int .u16 0) (.slice none 0 0) (l6 - k))) ∧ Below W6.heap.size W6 wr)
                      case atStart => exact ⟨0, [], Nat.zero_le _, rfl, rfl, rfl, goodP_nil K, HO3.out, hbel3⟩
                      case round =>
                        obtain ⟨k, P, hk, HG, rfl, HPL, HGP, HO, hbr⟩ := hrel
                        clear HO3 hbel3
                        by_cases hlt : k < l6
                        · obtain ⟨b, off, hy, hb, hc0, hc1⟩ := ho3.at_ (by omega)
                          cases hy
                          have hck := (hbr.cell (p := ⟨b, off + k * 2, none⟩) hb).trans (hc0 k hlt)
                          have hcv := (hbr.cell (p := ⟨b, off + k * 2 + 1, none⟩) hb).trans (hc1 k hlt)
                          have hvr := (ho3.vals k hlt).later (hbr)
                          have hvl := HV.out k hlt
                          rcases hVk : V k with ⟨va, vl, vc⟩
                          rw [hVk] at hcv hvr hvl
                          simp only at hcv hvr hvl
                          clear hVk hc0 hc1
                          obtain ⟨R6, rfl⟩ : ∃ R6, R6 = wr := ⟨_, rfl⟩
                          have hbR : b < R6.heap.size := by have := hbr.size; omega
                          go_upto_if 181 with fail
                          go_cut [27, 28] (fun vv x wx => ∃ va' vl' vc', vv = .slice va' vl' vc' ∧ Below R6.heap.size R6 wx)
                          case first =>
                            as_aux_lemma =>
                              clear ho3 HO HGP HPL
                              cases va with
                              | none =>
                                go_wp2_with fail
                                go_meet
                                exact ⟨_, _, _, rfl, Below.refl _ _⟩
                              | some y =>
                                go_wp2_with (at_make; refine wpList_make_full _ rfl _ _ 32 rfl R6.heap.size 5 i5 (.int .u8 0) 1 Try.underlying32 hi5 hz5a hz5b _ _ _ _ vl rfl rfl rfl rfl ?b2 ?b3 (Nat.le_refl _) ?_)
                                case b2 => rw [hz5c]; omega
                                case b3 => unfold maxLen; omega
                                intro w3 hown3 hgrow3
                                have hbel3 : Below R6.heap.size R6 w3 := (Below.refl _ _).grown hgrow3 (Nat.le_refl _) (fun k h => by cases h)
                                have HO3 : Hid _ := hown3
                                clear hgrow3 hown3
                                go_wp2_with fail
                                go_loopg [28] vl (fun gk i wr => ∃ (m : Nat) (xs : List Value), m ≤ vl ∧ Hid (gk = vl - m) ∧ i = .int .i64 m ∧ Hid (wr.ownsRow R6.heap.size 5 1 (.slice (some ⟨R6.heap.size, 0, none⟩) vl vl) vl xs) ∧ Below R6.heap.size R6 wr)
                                case atStart => exact ⟨0, _, Nat.zero_le _, rfl, rfl, HO3.out, hbel3⟩
                                case round =>
                                  obtain ⟨m, xs, hm, HGm, rfl, HOm, hbm⟩ := hrel
                                  clear HO3 hbel3
                                  have hcvm := (hbm.cell (p := ⟨b, off + k * 2 + 1, none⟩) hbR).trans hcv
                                  by_cases hltm : m < vl
                                  · obtain ⟨vb, vo, hy, hvb, hvc⟩ := hvr.at_ (by omega)
                                    cases hy
                                    obtain ⟨z, hz⟩ := hvc m hltm
                                    have hcz := (hbm.cell (p := ⟨vb, vo + m, none⟩) hvb).trans hz
                                    have hfz := HOm.out.frozenAt m
                                    obtain ⟨v, hcc⟩ := own_cell HOm.out hltm
                                    have HST : Hid _ := (HOm.out.stored m (.int .u8 z)).1
                                    clear hvc hz hvr
                                    go_wp2_with fail
                                    go_roundg (vl - (m + 1))
                                    case measure => rw [HGm.out]; omega
                                    case rel => exact ⟨m + 1, _, by omega, rfl, by go_num, HST.out, hbm.setCell (p := ⟨R6.heap.size, m, none⟩) (Nat.le_refl _) _⟩
                                  · clear hvr
                                    go_wp2_with fail
                                    go_meet
                                    exact ⟨_, _, _, rfl, hbm⟩
                          case rest =>
                            as_aux_lemma =>
                              obtain ⟨va', vl', vc', rfl, hbv⟩ := hcut
                              clear hvr hvl hcv ho3
                              have hbw := hbr.trans (hbv.mono hbr.size)
                              have hown := own_below HO.out hbv
                              have hck2 := (hbv.cell (p := ⟨b, off + k * 2, none⟩) hbR).trans hck
                              obtain ⟨c, hc⟩ : ∃ c, c = K.getD k 0 := ⟨_, rfl⟩
                              rw [← hc] at hck2
                              have hfz0 := hown.frozenAt (k * 2)
                              have hfz1 := hown.frozenAt (k * 2 + 1)
                              obtain ⟨v0, hcc0⟩ := own2_cell hown (k := k * 2) (by omega)
                              obtain ⟨v1, hcc1⟩ := own2_cell hown (k := k * 2 + 1) (by omega)
                              have hst := ((hown.stored (k * 2) (.int .u16 c)).1.stored (k * 2 + 1) (.slice va' vl' vc')).1
                              have hlk : l6 - k = (l6 - (k + 1)) + 1 := by omega
                              rw [hlk, part2_set P _ _ _ _ k _ HPL.out] at hst
                              have HST : Hid _ := hst
                              have HGP2 : Hid (GoodP K (P ++ [(.int .u16 c, .slice va' vl' vc')])) := by rw [hc]; exact goodP_snoc HGP.out HPL.out
                              have HPL2 : Hid ((P ++ [((.int .u16 c : Value), (.slice va' vl' vc' : Value))]).length = k + 1) := by show _ = _; rw [List.length_append, HPL.out]; rfl
                              clear hst hlk hc hown hck HO HGP HPL hbv hbr
                              go_wp2_with fail
                              go_roundg (l6 - (k + 1))
                              case measure => rw [HG.out]; omega
                              case rel => exact ⟨k + 1, _, by omega, rfl, by go_num, HPL2.out, HGP2.out, HST.out, (hbw.setCell (p := ⟨W6.heap.size, k * 2, none⟩) (Nat.le_refl _) _).setCell (p := ⟨W6.heap.size, k * 2 + 1, none⟩) (Nat.le_refl _) _⟩
                        · as_aux_lemma =>
                            have hkl : k = l6 := by omega
                            have hown := HO.out
                            rw [hkl, Nat.sub_self, part2_full] at hown
                            have HPR : Hid _ := prow_of hown (by rw [HPL.out]; exact hkl) HGP.out ho3.leng ho3.range
                            clear hown HO HGP HPL hkl ho3
                            go_wp2_with fail
                            go_meet
                            exact ⟨_, _, rfl, (fun h => by cases h), HPR.out, hbr⟩
                case rest =>
                  obtain ⟨oa, oc, rfl, HON, HPR, hbel1⟩ := hcut
                  obtain ⟨W7, rfl⟩ : ∃ W7, W7 = wc := ⟨_, rfl⟩
                  have hbelC := hbelB.trans (hbel1.mono hbelB.size)
                  have HM3 : Hid (MRow W7 ma l0) := HM2.out.later hbel1
                  clear ho3 hbelB hbel1 HM2 HV
                  go_upto_if 222 with fail
                  go_cut [29, 30] (fun mv x wx => ∃ sa sl sc, mv = .slice sa sl sc ∧ Hid (sa.isNone = ma.isNone) ∧ Below W7.heap.size W7 wx)
                  case first =>
                    as_aux_lemma =>
                      cases ma with
                      | none =>
                        go_wp2_with fail
                        go_meet
                        exact ⟨_, _, _, rfl, rfl, Below.refl _ _⟩
                      | some y =>
                        go_wp2_with (at_make; refine wpList_make_full _ rfl _ _ 35 rfl W7.heap.size 36 i36 (.int .u16 0) 1 Try.underlying35 hi36 hz36a hz36b _ _ _ _ l0 rfl rfl rfl rfl ?b2 ?b3 (Nat.le_refl _) ?_)
                        case b2 => rw [hz36c]; omega
                        case b3 => unfold maxLen; omega
                        intro w3 hown3 hgrow3
                        have hbel3 : Below W7.heap.size W7 w3 := (Below.refl _ _).grown hgrow3 (Nat.le_refl _) (fun k h => by cases h)
                        have HO3 : Hid _ := hown3
                        clear hgrow3 hown3
                        go_wp2_with fail
                        go_loopg [30] l0 (fun gk i wr => ∃ (k : Nat) (xs : List Value), k ≤ l0 ∧ Hid (gk = l0 - k) ∧ i = .int .i64 k ∧ Hid (wr.ownsRow W7.heap.size 36 1 (.slice (some ⟨W7.heap.size, 0, none⟩) l0 l0) l0 xs) ∧ Below W7.heap.size W7 wr)
                        case atStart => exact ⟨0, _, Nat.zero_le _, rfl, rfl, HO3.out, hbel3⟩
                        case round =>
                          obtain ⟨k, xs, hk, HG, rfl, HO, hbr⟩ := hrel
                          clear HO3 hbel3
                          by_cases hlt : k < l0
                          · obtain ⟨b, off, hy, hb, hc⟩ := HM3.out.at_ (by omega)
                            cases hy
                            obtain ⟨z, hz⟩ := hc k hlt
                            have hcz := (hbr.cell (p := ⟨b, off + k, none⟩) hb).trans hz
                            have hfz := HO.out.frozenAt k
                            obtain ⟨v, hcc⟩ := own_cell HO.out hlt
                            have HST : Hid _ := (HO.out.stored k (.int .u16 z)).1
                            clear hc hz
                            go_wp2_with fail
                            go_roundg (l0 - (k + 1))
                            case measure => rw [HG.out]; omega
                            case rel => exact ⟨k + 1, _, by omega, rfl, by go_num, HST.out, hbr.setCell (p := ⟨W7.heap.size, k, none⟩) (Nat.le_refl _) _⟩
                          · go_wp2_with fail
                            go_meet
                            exact ⟨_, _, _, rfl, rfl, hbr⟩
                  case rest =>
                    obtain ⟨sa, sl, sc, rfl, HSA, hbel1⟩ := hcut
                    obtain ⟨W8, rfl⟩ : ∃ W8, W8 = wc := ⟨_, rfl⟩
                    have hbelD := hbelC.trans (hbel1.mono hbelC.size)
                    have HPR2 : Hid (PRow W8 oa l6 K) := HPR.out.later hbel1
                    clear hbelC hbel1 HM3 HPR
                    go_upto_if 240 with fail
                    go_cut [31, 32] (fun pv x wx => ∃ pa pc, pv = .slice pa l6 pc ∧ Hid (PRow wx pa l6 K) ∧ Below W8.heap.size W8 wx)
                    case first =>
                      as_aux_lemma =>
                        cases oa with
                        | none =>
                          have HL6 : Hid (l6 = 0) := HON.out rfl
                          have HPR3 : Hid (PRow W8 none 0 K) := by rw [← HL6.out]; exact HPR2.out
                          have hle : l6 ≤ 0 := by rw [HL6.out]; exact Nat.le_refl _
                          have hle2 : l6 = 0 := HL6.out
                          subst hle2
                          go_wp2_with fail
                          go_meet
                          exact ⟨_, _, rfl, HPR3.out, Below.refl _ _⟩
                        | some y =>
                          go_wp2_with (at_make; refine wpList_make_full _ rfl _ _ 37 rfl W8.heap.size 39 i39 (.agg #[.int .u16 0, .slice none 0 0]) 2 Try.underlying37 hi39 hz39a hz39b _ _ _ _ l6 rfl rfl rfl rfl ?b2 ?b3 (Nat.le_refl _) ?_)
                          case b2 => rw [hz39c]; omega
                          case b3 => unfold maxLen; omega
                          intro w3 hown3 hgrow3
                          rw [made_pair] at hown3
                          have hbel3 : Below W8.heap.size W8 w3 := (Below.refl _ _).grown hgrow3 (Nat.le_refl _) (fun k h => by cases h)
                          have HO3 : Hid _ := hown3
                          clear hgrow3 hown3
                          go_wp2_with fail
                          go_loopg [32] l6 (fun gk i wr => ∃ (k : Nat) (P : List (Value × Value)), k ≤ l6 ∧ Hid (gk = l6 - k) ∧ i = .int .i64 k ∧ Hid (P.length = k) ∧ Hid (GoodP K P) ∧ Hid (wr.ownsRow W8.heap.size 39 2 (.slice (some ⟨W8.heap.size, 0, none⟩) l6 l6) l6 (part2 P (.int .u16 0) (.slice none 0 0) (l6 - k))) ∧ Below W8.heap.size W8 wr)
                          case atStart => exact ⟨0, [], Nat.zero_le _, rfl, rfl, rfl, goodP_nil K, HO3.out, hbel3⟩
                          case round =>
                            obtain ⟨k, P, hk, HG, rfl, HPL, HGP, HO, hbr⟩ := hrel
                            clear HO3 hbel3
                            by_cases hlt : k < l6
                            · obtain ⟨b, off, hy, hb, hc0, hc1⟩ := HPR2.out.at_ (by omega)
                              cases hy
                              obtain ⟨va, vl, vc, hcv0⟩ := hc1 k hlt
                              have hck := (hbr.cell (p := ⟨b, off + k * 2, none⟩) hb).trans (hc0 k hlt)
                              have hcv := (hbr.cell (p := ⟨b, off + k * 2 + 1, none⟩) hb).trans hcv0
                              have hown := HO.out
                              obtain ⟨c, hc⟩ : ∃ c, c = K.getD k 0 := ⟨_, rfl⟩
                              rw [← hc] at hck
                              have hfz0 := hown.frozenAt (k * 2)
                              have hfz1 := hown.frozenAt (k * 2 + 1)
                              obtain ⟨v0, hcc0⟩ := own2_cell hown (k := k * 2) (by omega)
                              obtain ⟨v1, hcc1⟩ := own2_cell hown (k := k * 2 + 1) (by omega)
                              have hst := ((hown.stored (k * 2) (.int .u16 c)).1.stored (k * 2 + 1) (.slice va vl vc)).1
                              have hlk : l6 - k = (l6 - (k + 1)) + 1 := by omega
                              rw [hlk, part2_set P _ _ _ _ k _ HPL.out] at hst
                              have HST : Hid _ := hst
                              have HGP2 : Hid (GoodP K (P ++ [(.int .u16 c, .slice va vl vc)])) := by rw [hc]; exact goodP_snoc HGP.out HPL.out
                              have HPL2 : Hid ((P ++ [((.int .u16 c : Value), (.slice va vl vc : Value))]).length = k + 1) := by show _ = _; rw [List.length_append, HPL.out]; rfl
                              have hkI : (k : Int) < (l6 : Int) := by omega
                              clear hst hlk hc hown HO HGP HPL hc0 hc1 hcv0 HPR2
                              go_wp2_with fail
                              go_region
                              all_goals go_wp2_with fail
                              all_goals
                                go_roundg (l6 - (k + 1))
                                case measure => rw [HG.out]; omega
                                case rel => exact ⟨k + 1, _, by omega, rfl, by go_num, HPL2.out, HGP2.out, World.ownsRow.drew HST.out, ((hbr.setCell (p := ⟨W8.heap.size, k * 2, none⟩) (Nat.le_refl _) _).setCell (p := ⟨W8.heap.size, k * 2 + 1, none⟩) (Nat.le_refl _) _).drew⟩
                            · have hkl : k = l6 := by omega
                              have hown := HO.out
                              rw [hkl, Nat.sub_self, part2_full] at hown
                              have HPR3 : Hid _ := prow_of hown (by rw [HPL.out]; exact hkl) HGP.out HPR2.out.leng HPR2.out.range
                              clear hown HO HGP HPL hkl
                              go_wp2_with fail
                              go_meet
                              exact ⟨_, _, rfl, HPR3.out, hbr⟩
                    case rest =>
                      obtain ⟨pa, pc, rfl, HPP, hbel1⟩ := hcut
                      obtain ⟨W9, rfl⟩ : ∃ W9, W9 = wc := ⟨_, rfl⟩
                      have hbelE := hbelD.trans (hbel1.mono hbelD.size)
                      have HPR3 : Hid (PRow W9 oa l6 K) := HPR2.out.later hbel1
                      clear hbelD hbel1 HPR2
                      go_wp2_with fail
                      have hbx : Below W9.heap.size W9 (W9.alloc (Obj.cells #[Value.slice sa sl sc, Value.slice aa l1 ac, Value.bool nd, Value.int IntKind.u16 port, Value.bool hp, Value.string dp, Value.slice pa l6 pc] 42)) := (Below.refl _ _).alloc (Nat.le_refl _) _
                      have hsp := sp_alloc W9 sa aa pa sl sc l1 ac l6 pc nd hp port dp
                      have HZ := zz_any W9.heap.size sa aa pa sl sc l1 ac l6 pc nd hp port key dp K _ hsp h6 (HPP.out.later hbx) HSRT.out hkey
                      obtain ⟨R, hR⟩ : ∃ R, R = ans ma.isNone aa.isNone nd hp dp K key := ⟨_, rfl⟩
                      rw [HSA.out, ← hR] at HZ
                      have HPR4 : Hid (PRow (W9.alloc (Obj.cells #[Value.slice sa sl sc, Value.slice aa l1 ac, Value.bool nd, Value.int IntKind.u16 port, Value.bool hp, Value.string dp, Value.slice pa l6 pc] 42)) oa l6 K) := HPR3.out.later hbx
                      have HR : Hid (R = ans ma.isNone aa.isNone nd hp dp K key) := hR
                      clear hsp hR HPR3 HPP
                      refine HZ.mono ?_
                      rintro e w5 ⟨rfl, hb5⟩
                      have HMo := model_any ma aa oa l0 mc l1 ac l6 oc nd hp key dp K w5 h6 (HPR4.out.later hb5)
                      rw [← HR.out] at HMo
                      have hbF := hbelE.trans (hbx.mono hbelE.size)
                      have hbG := hbF.trans (hb5.mono hbF.size)
                      clear HZ HPR4 HR hbx hb5 hbF hbelE HSA HSRT
                      go_wp2_with fail
                      refine HMo.mono ?_
                      rintro e w6 ⟨rfl, hw6⟩
                      subst hw6
                      cases R
                      all_goals
                        go_wp2_with fail
                        go_ret
                        exact ⟨rfl, hbG⟩
end Go.Proofs.Qxb6601968a.Has
