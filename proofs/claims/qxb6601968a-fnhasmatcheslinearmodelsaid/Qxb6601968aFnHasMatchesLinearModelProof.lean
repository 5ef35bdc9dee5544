/-
  'Rows.FnHasMatchesLinearModelSaid' PROVED. The frame is the guide's shell for a law, turned to this function's eight arguments; the walks lie in Qxb6601968aHasBig and Qxb6601968aHasLaw.
-/
import Derived.Test.Qxb6601968aHasBig
import Derived.Test.Qxb6601968aHasLaw
import Derived.Test.Qxb6601968aHasOpen
import Derived.WalkKit
import Derived.ProofKit
import Derived.OpenShut
import Derived.ShutString
import Derived.ChangeOld
import Derived.Below
namespace Go.Proofs.Qxb6601968a.fnHasMatchesLinearModel
open Go.ChangeShapes Go.WideShapes Go.ChangeAt Go.RowKit
open Go.ChangeMaps (open_string shut_string)
open Go.Proofs.Qxb6601968a.Has (MRow SRow ORow law_big law_in open_m open_s open_o)
set_option linter.unusedVariables false

theorem own : ownKnob Try.prog.godebug = none := by kernel_rfl
theorem laidOut : laidOutB Try.prog = true := by kernel_rfl

theorem walk (a0 a1 a6 : Option Addr) (l0 c0 l1 c1 l6 c6 : Nat) (nd hp : Bool) (port key : Int) (dp : ByteArray) (K : List Int) (V : Nat → Option Addr × Nat × Nat) (w : World)
    (h0 : l0 ≤ maxLen) (h1 : l1 ≤ maxLen) (h6 : l6 ≤ maxLen) (hd : dp.size ≤ maxLen) (hm : MRow w a0 l0) (hs : SRow w a1 l1) (ho : ORow w a6 l6 K V) (hkey : 0 ≤ key ∧ key ≤ 65535) :
    Calls Try.prog 7 #[.slice a0 l0 c0, .slice a1 l1 c1, .bool nd, .int .u16 port, .bool hp, .string dp, .slice a6 l6 c6, .int .u16 key] w fun e w' => e = .returned (.bool true) ∧ Below w.heap.size w w' := by
  by_cases hbig : 1048576 < l0 ∨ 1048576 < l1 ∨ 1048576 < l6 ∨ 1048576 < dp.size
  · exact law_big a0 a1 a6 l0 c0 l1 c1 l6 c6 nd hp port key dp K V w h0 h1 h6 hd hs ho hbig
  · exact law_in a0 a1 a6 l0 c0 l1 c1 l6 c6 nd hp port key dp K V w (by omega) (by omega) (by omega) (by omega) hm hs ho hkey

/-! ### THE ROW's STEP -/
set_option maxRecDepth 100000 in
theorem lifted (os : Os) (started : os.Started) (H : Type) (enc : TypeId × Value → H) :
    ReturnsInHanded {} Try.checked os 7 .any (Rows.fnHasMatchesLinearModelSpec.pre6 enc Try.prog Try.f7 Rows.fnHasMatchesLinearModelRow.domain false) (Rows.fnHasMatchesLinearModelSpec.post enc Try.prog Try.f7 false true false false) := by
  refine returnsInHanded_of_change (C := Try.checked) own started (by kernel_rfl) Try.func7
    (ChangeSpec.witness6 (enc := enc) (C := Try.checked) false ⟨#[], #[.slice none 0 0, .slice none 0 0, .bool false, .int .u16 0, .bool false, .string ByteArray.empty, .slice none 0 0, .int .u16 0], []⟩ 8 (by kernel_rfl) (by kernel_rfl) (by kernel_rfl) (by kernel_rfl)) ?_
  intro W base args ds gs before hval0 hW hcnd _
  have hval : ∀ (j : Nat) t v, Try.f7.params[j]? = some t → args[j]? = some v → Value.okWide Try.prog W .any base t v := hval0
  have hW' := hW
  obtain ⟨p, q, hA0, hV, rfl, hfz, hnd⟩ := hW
  have hA : DataW.TrodAll enc Try.prog W 0 (fun _ => true) true Try.f7.params.toList args.toList ds p := hA0
  rw [Try.params7] at hA hval
  obtain ⟨v0, vs0, d0, ds0, p0, q0, hargs, rfl, rfl, h0, r0⟩ := trodAll_cons hA
  obtain ⟨v1, vs1, d1, ds1, p1, q1, rfl, rfl, rfl, h1, r1⟩ := trodAll_cons r0
  obtain ⟨v2, vs2, d2, ds2, p2, q2, rfl, rfl, rfl, h2, r2⟩ := trodAll_cons r1
  obtain ⟨v3, vs3, d3, ds3, p3, q3, rfl, rfl, rfl, h3, r3⟩ := trodAll_cons r2
  obtain ⟨v4, vs4, d4, ds4, p4, q4, rfl, rfl, rfl, h4, r4⟩ := trodAll_cons r3
  obtain ⟨v5, vs5, d5, ds5, p5, q5, rfl, rfl, rfl, h5, r5⟩ := trodAll_cons r4
  obtain ⟨v6, vs6, d6, ds6, p6, q6, rfl, rfl, rfl, h6, r6⟩ := trodAll_cons r5
  obtain ⟨v7, vs7, d7, ds7, p7, q7, rfl, rfl, rfl, h7, r7⟩ := trodAll_cons r6
  obtain ⟨rfl, rfl, rfl⟩ := trodAll_nil r7
  obtain rfl : args = #[v0, v1, v2, v3, v4, v5, v6, v7] := by cases args; simp_all
  obtain ⟨rfl, rfl⟩ := trodVars_none hV
  obtain ⟨a0, len0, cap0, rfl⟩ := okWide_slice Try.underlying27 (hval 0 27 v0 rfl rfl)
  obtain ⟨a1, len1, cap1, rfl⟩ := okWide_slice Try.underlying28 (hval 1 28 v1 rfl rfl)
  obtain ⟨a2, rfl, rfl, rfl⟩ := open_bool Try.underlying4 (hval 2 4 v2 rfl rfl) h2
  obtain ⟨a3, rfl, rfl, rfl, w3⟩ := open_int Try.underlying29 (hval 3 29 v3 rfl rfl) h3
  obtain ⟨a4, rfl, rfl, rfl⟩ := open_bool Try.underlying4 (hval 4 4 v4 rfl rfl) h4
  obtain ⟨a5, rfl, rfl, rfl, w5⟩ := open_string Try.underlying9 (hval 5 9 v5 rfl rfl) h5
  obtain ⟨a6, len6, cap6, rfl⟩ := okWide_slice Try.underlying30 (hval 6 30 v6 rfl rfl)
  obtain ⟨a7, rfl, rfl, rfl, w7⟩ := open_int Try.underlying29 (hval 7 29 v7 rfl rfl) h7
  have k0 := h0
  have k1 := h1
  have k6 := h6
  have lt0 : ∀ x ∈ p0, x.block < W.heap.size := by obtain ⟨m, hm⟩ := k0; exact DataW.trod_lt m _ _ _ hm
  have lt1 : ∀ x ∈ p1, x.block < W.heap.size := by obtain ⟨m, hm⟩ := k1; exact DataW.trod_lt m _ _ _ hm
  have lt6 : ∀ x ∈ p6, x.block < W.heap.size := by obtain ⟨m, hm⟩ := k6; exact DataW.trod_lt m _ _ _ hm
  obtain ⟨m0, e0⟩ : len0 ≤ maxLen ∧ MRow W a0 len0 := by
    obtain ⟨fuel, hf⟩ := h0
    exact open_m hf
  obtain ⟨m1, e1⟩ : len1 ≤ maxLen ∧ SRow W a1 len1 := by
    obtain ⟨fuel, hf⟩ := h1
    exact open_s hf
  obtain ⟨m6, K, V, e6⟩ : len6 ≤ maxLen ∧ ∃ K V, ORow W a6 len6 K V := by
    obtain ⟨fuel, hf⟩ := h6
    exact open_o hf
  clear hA0 hval0
  refine (walk a0 a1 a6 len0 cap0 len1 cap1 len6 cap6 a2 a4 a3 a7 a5 K V W m0 m1 m6 w5 e0 e1 e6 (bounds_u16 w7)).mono fun e W' ⟨he, bel⟩ => ?_
  subst he
  exact ⟨_, rfl, _, _, _, [], _, [], hW', trodAll_mk1 (shut_bool Try.underlying4 _), (trodAll_cons_mk (Below.trod laidOut (by kernel_rfl) (of_decide_eq_true (by kernel_rfl)) k0 bel lt0) (trodAll_cons_mk (Below.trod laidOut (by kernel_rfl) (of_decide_eq_true (by kernel_rfl)) k1 bel lt1) (trodAll_cons_mk (shut_bool Try.underlying4 _) (trodAll_cons_mk (shut_int Try.underlying29 w3) (trodAll_cons_mk (shut_bool Try.underlying4 _) (trodAll_cons_mk (shut_string Try.underlying9 w5) (trodAll_cons_mk (Below.trod laidOut (by kernel_rfl) (of_decide_eq_true (by kernel_rfl)) k6 bel lt6) (trodAll_cons_mk (shut_int Try.underlying29 w7) trodAll_mk0)))))))), rfl, bel.frame _, fun h => by cases h⟩

theorem over : Rows.fnHasMatchesLinearModelRow.holds Try.pinned (OpenSpec.ofChange Rows.fnHasMatchesLinearModelSpec) :=
  OpenClaim.holds_of_wide 7 Try.f7 rfl rfl rfl rfl rfl rfl rfl ⟨rfl, rfl, rfl, rfl, rfl⟩ rfl rfl rfl rfl rfl (by kernel_rfl) Try.func7 (by kernel_rfl)
    (of_decide_eq_true (by kernel_rfl)) (by unfold Func.isWrapper; first | (rw [if_pos (by decide +kernel)]; kernel_rfl) | (rw [if_neg (by decide +kernel)]; exact ⟨rfl, rfl⟩))
    (fun os started H enc _ => lifted os started H enc)

/-- THE STATEMENT -/
theorem proved : Rows.FnHasMatchesLinearModelSaid := over
#print axioms proved
end Go.Proofs.Qxb6601968a.fnHasMatchesLinearModel
