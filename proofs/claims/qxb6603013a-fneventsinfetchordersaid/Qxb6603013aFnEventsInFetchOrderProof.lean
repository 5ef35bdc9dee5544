/-
  'Rows.FnEventsInFetchOrderSaid' PROVED. The frame is the guide's shell for a law, turned to a string and a slice of structs; the walks lie in Qxb6603013aEvLaw.
-/
import Derived.Test.Qxb6603013aEvLaw
import Derived.WalkKit
import Derived.ProofKit
import Derived.OpenShut
import Derived.ShutString
import Derived.ChangeOld
import Derived.Below
import Derived.Deep.SlicePairs
namespace Go.Proofs.Qxb6603013a.fnEventsInFetchOrder
open Go.ChangeShapes Go.WideShapes Go.ChangeAt Go.RowKit
open Go.ChangeMaps (open_string shut_string)
open Go.Proofs.Qxb6603013a.Ev (EvRow law_huge law_in)
set_option linter.unusedVariables false

theorem own : ownKnob Try.prog.godebug = none := by kernel_rfl
theorem laidOut : laidOutB Try.prog = true := by kernel_rfl
theorem cells37 : Try.prog.cellsOf 37 = 2 := by kernel_rfl
theorem cells9 : Try.prog.cellsOf 9 = 1 := by kernel_rfl

def strOf : Value → ByteArray | .string s => s | _ => ⟨#[]⟩

theorem str_of {H : Type} {enc : TypeId × Value → H} {W : World} {n : Nat} {v : Value} {x : DataW H × List MemPlace} (h : DataW.trod enc Try.prog W 0 (fun _ => true) true n 9 [v] = some x) : v = .string (strOf v) := by
  obtain ⟨s, hs, _⟩ := DataW.trod_string Try.underlying9 h
  simp at hs
  subst hs
  rfl

/-- The slice of events, opened. -/
theorem open_evs {H : Type} {enc : TypeId × Value → H} {W : World} {fuel : Nat} {a : Option Addr} {len cap : Nat} {x : DataW H × List MemPlace} (hf : DataW.trod enc Try.prog W 0 (fun _ => true) true fuel 34 [.slice a len cap] = some x) :
    len ≤ maxLen ∧ ∃ es, EvRow W a len cap es := by
  rcases Deep.open_slice_pairs Try.underlying34 Try.underlying37 cells37 rfl rfl cells9 cells9 hf with ⟨hcs, _⟩ | ⟨y, l, c, m, n, V0, V1, D0, D1, P0, P1, hcs, _, hl, hm, hmm, _, hcell⟩
  · simp at hcs
    obtain ⟨rfl, rfl, rfl⟩ := hcs
    exact ⟨Nat.zero_le _, [], ⟨fun _ => ⟨rfl, rfl⟩, rfl, fun h => absurd h (by omega)⟩⟩
  · simp at hcs
    obtain ⟨rfl, rfl, rfl⟩ := hcs
    simp at hmm
    subst hmm
    refine ⟨Nat.le_trans hl hm, (List.range len).map fun i => (strOf (V0 i), strOf (V1 i)), ⟨(fun h => by cases h), by simp, fun h0 => ?_⟩⟩
    obtain ⟨b, off, spot⟩ := y
    have hc0 := (hcell 0 (by omega)).1
    have hspot : spot = none := by simpa [Addr.add] using World.cell?_spot hc0
    subst hspot
    have hb : b < W.heap.size := block_lt_of_cell hc0
    refine ⟨b, off, rfl, hb, fun j hj => ?_, fun j hj => ?_⟩
    · obtain ⟨h1, _, h3, _⟩ := hcell j (by omega)
      rw [add_plain] at h1
      rw [h1, str_of h3]
      simp [List.getD, hj, strOf]
    · obtain ⟨_, h2, _, h4⟩ := hcell j (by omega)
      rw [add_plain, ← Nat.add_assoc] at h2
      rw [h2, str_of h4]
      simp [List.getD, hj, strOf]

theorem walk (s : ByteArray) (a : Option Addr) (len cap : Nat) (es : List (ByteArray × ByteArray)) (w : World) (hs : s.size ≤ maxLen) (hlen : len ≤ maxLen) (h : EvRow w a len cap es) :
    Calls Try.prog 7 #[.string s, .slice a len cap] w fun e w' => e = .returned (.bool true) ∧ Below w.heap.size w w' := by
  by_cases hbig : 1048576 < s.size ∨ 65536 < len
  · exact law_huge s a len cap es w hs hlen h hbig
  · exact law_in s a len cap es w (by omega) (by omega) h

/-! ### THE ROW's STEP -/
set_option maxRecDepth 100000 in
theorem lifted (os : Os) (started : os.Started) (H : Type) (enc : TypeId × Value → H) :
    ReturnsInHanded {} Try.checked os 7 .any (Rows.fnEventsInFetchOrderSpec.pre6 enc Try.prog Try.f7 Rows.fnEventsInFetchOrderRow.domain false) (Rows.fnEventsInFetchOrderSpec.post enc Try.prog Try.f7 false true false false) := by
  refine returnsInHanded_of_change (C := Try.checked) own started (by kernel_rfl) Try.func7
    (ChangeSpec.witness6 (enc := enc) (C := Try.checked) false ⟨#[], #[.string ByteArray.empty, .slice none 0 0], []⟩ 8 (by kernel_rfl) (by kernel_rfl) (by kernel_rfl) (by kernel_rfl)) ?_
  intro W base args ds gs before hval0 hW hcnd _
  have hval : ∀ (j : Nat) t v, Try.f7.params[j]? = some t → args[j]? = some v → Value.okWide Try.prog W .any base t v := hval0
  have hW' := hW
  obtain ⟨p, q, hA0, hV, rfl, hfz, hnd⟩ := hW
  have hA : DataW.TrodAll enc Try.prog W 0 (fun _ => true) true Try.f7.params.toList args.toList ds p := hA0
  rw [Try.params7] at hA hval
  obtain ⟨v0, vs0, d0, ds0, p0, q0, hargs, rfl, rfl, h0, r0⟩ := trodAll_cons hA
  obtain ⟨v1, vs1, d1, ds1, p1, q1, rfl, rfl, rfl, h1, r1⟩ := trodAll_cons r0
  obtain ⟨rfl, rfl, rfl⟩ := trodAll_nil r1
  obtain rfl : args = #[v0, v1] := by cases args; simp_all
  obtain ⟨rfl, rfl⟩ := trodVars_none hV
  obtain ⟨a0, rfl, rfl, rfl, w0⟩ := open_string Try.underlying9 (hval 0 9 v0 rfl rfl) h0
  obtain ⟨a1, len1, cap1, rfl⟩ := okWide_slice Try.underlying34 (hval 1 34 v1 rfl rfl)
  have k1 := h1
  have lt1 : ∀ x ∈ p1, x.block < W.heap.size := by obtain ⟨m, hm⟩ := k1; exact DataW.trod_lt m _ _ _ hm
  obtain ⟨hl1, es, w1⟩ : len1 ≤ maxLen ∧ ∃ es, EvRow W a1 len1 cap1 es := by
    obtain ⟨fuel, hf⟩ := h1
    exact open_evs hf
  clear hA0 hval0
  refine (walk a0 a1 len1 cap1 es W w0 hl1 w1).mono fun e W' ⟨he, bel⟩ => ?_
  subst he
  exact ⟨_, rfl, _, _, _, [], _, [], hW', trodAll_mk1 (shut_bool Try.underlying4 _), (trodAll_cons_mk (shut_string Try.underlying9 w0) (trodAll_cons_mk (Below.trod laidOut (by kernel_rfl) (of_decide_eq_true (by kernel_rfl)) k1 bel lt1) trodAll_mk0)), rfl, bel.frame _, fun h => by cases h⟩

theorem over : Rows.fnEventsInFetchOrderRow.holds Try.pinned (OpenSpec.ofChange Rows.fnEventsInFetchOrderSpec) :=
  OpenClaim.holds_of_wide 7 Try.f7 rfl rfl rfl rfl rfl rfl rfl ⟨rfl, rfl, rfl, rfl, rfl⟩ rfl rfl rfl rfl rfl (by kernel_rfl) Try.func7 (by kernel_rfl)
    (of_decide_eq_true (by kernel_rfl)) (by unfold Func.isWrapper; first | (rw [if_pos (by decide +kernel)]; kernel_rfl) | (rw [if_neg (by decide +kernel)]; exact ⟨rfl, rfl⟩))
    (fun os started H enc _ => lifted os started H enc)

/-- THE STATEMENT -/
theorem proved : Rows.FnEventsInFetchOrderSaid := over
#print axioms proved
end Go.Proofs.Qxb6603013a.fnEventsInFetchOrder
