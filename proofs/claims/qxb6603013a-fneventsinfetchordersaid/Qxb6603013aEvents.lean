/-
  (Object).Events (function 21): its contract.
-/
import Derived.Test.Qxb6603013aKinds
import Derived.Test.Qxb6603013aCloneEv
import Derived.Deep.RegionLaw
import Derived.WalkSmall
import Derived.Deep.DeepCutAuto
import Derived.Deep.CutBlock
namespace Go.Proofs.Qxb6603013a.Ev
open Go.RowKit
open Go.Proofs.Qxb6603013a.Items (Chain evs)

/-- How many of them are events that say something. -/
def c13 (l : List Int) : Nat := (l.filter fun k => k == 13).length

/-- The list that Events gives: at each quiet event nothing, at each other the next. -/
def outs : List Int → List (ByteArray × ByteArray) → List (ByteArray × ByteArray)
  | [], _ => []
  | k :: ks, es => if k = 13 then es.headD (⟨#[]⟩, ⟨#[]⟩) :: outs ks es.tail else (⟨#[]⟩, ⟨#[]⟩) :: outs ks es

/-- 'append' to a row of the call's own, as one step of a region that draws. -/
theorem step_append_own {P : Program} {ops : Array Oper} {o : Oper} {a : Act} {w : World} {K : Act → World → Prop} {Q : Exit → Act → World → Prop} {E : Prop}
    (hg : o.guard = none) (s x : Operand) (t : TypeId) (hop : o.op = Op.call { callee := Callee.builtin Builtin.append, args := #[s, x], argTypes := #[t, t] })
    (base : Nat) (e : TypeId) (i : TypeInfo) (z : Value) (size bytes : Nat) (h1 : P.underlying t = some (.slice e)) (h2 : P.info? e = some i) (h3 : i.zero = some z) (h4 : i.size = size) (h5 : i.bytes = bytes) (h6 : z.cells.size = size) (h7 : 0 < size)
    (v : Value) (n : Nat) (xs : List Value) (hs : a.eval s = v) (hown : w.ownsRow base e size v n xs)
    (ad : Addr) (m c : Nat) (news : List Value) (hx : a.eval x = .slice (some ad) m c) (hn : news.length = m * size) (hc : ∀ j u, news[j]? = some u → w.cell? (ad.add j) = some u) (h1c : ∀ u ∈ news, u.oneCell' = true)
    (b1 : n + m ≤ maxLen) (b2 : (n + m) * bytes ≤ 140737488355328) (hbase : base ≤ w.heap.size)
    (hK : ∀ v' w', w'.ownsRow base e size v' (n + m) (xs ++ news) → w.grownBy w' v.ownBlock → (v' = .slice none 0 0 ↔ v = .slice none 0 0 ∧ m = 0) → K (a.put o.dst v') w') :
    if Region.wanted o (yielded ops a.tmps) = true then Oper.wp P o a w K Q else E := by
  have hw : Region.wanted o (yielded ops a.tmps) = true := by simp [Region.wanted, hg]
  rw [if_pos hw]
  obtain ⟨v', w', hrun, r1, r2, r3⟩ := run_append_own (P := P) w base t o.type e i z size bytes h1 h2 h3 h4 h5 h6 h7 v n xs hown ad m c news hn hc h1c b1 b2 hbase
  unfold Oper.wp
  simp [execOp, hop, resolve, invoke, builtin, hs, hx, hrun, Result.andThen]
  exact hK v' w' r1 r2 r3

/-- The new array of Events: room for ten. -/
def ten : Array Value := (Array.replicate 20 (Value.string ⟨#[]⟩))

theorem make_ten (w : World) : (Instr.makeSlice 41 (.int .i64 0) (.int .i64 10)).run Try.prog w = .ok (.slice (some ⟨w.heap.size, 0, none⟩) 0 10) (w.alloc (.cells ten 43)) := by kernel_rfl

/-- Without a quiet event: the object's own list; for none an empty one. -/
structure PlainOut (ea : Option Addr) (len cap : Nat) (v : Value) : Prop where
  nil : ea = none → ∃ x, v = .slice (some x) 0 0
  own : ea ≠ none → v = .slice ea len cap

set_option maxHeartbeats 1000000 in
set_option maxRecDepth 100000 in
theorem events_plain (s : ByteArray) (ks : List Int) (ea : Option Addr) (len cap : Nat) (w : World) (hs : s.size ≤ 1048576) (hch : Chain s ks) (h14 : (14 : Int) ∉ ks) :
    Calls Try.prog 21 #[.agg #[.string s, .slice ea len cap]] w fun e w' => ∃ v, e = .returned v ∧ PlainOut ea len cap v ∧ Below w.heap.size w w' := by
  have q41 : ∀ (w : World) (a : Option Addr) (n c n' c' : Nat), (binOp .eql 41 (.slice a n c) (.slice none n' c')).run Try.prog w = .ok (.bool a.isNone) w := fun w a n c n' c' => Lib.run_eql_slice_nil w _ _ a n c n' c' Try.underlying41
  have HH := Items.has_any s (.slice ea len cap) ks 14 (w.alloc (.cells #[.string s, .slice ea len cap] 45)) (by omega) hch
  rw [decide_eq_false h14] at HH
  clear hch h14
  go_enter Try.func21, Try.ntmps21
  go_wp2_with fail
  refine HH.mono ?_
  rintro e w1 ⟨rfl, hb⟩
  have hcb0 : w1.cell? ⟨w.heap.size, 0, none⟩ = some (.string s) := by
    rw [hb.cell (p := ⟨w.heap.size, 0, none⟩) (by simp), World.cell?_alloc_at _ _ _ _ rfl]; rfl
  have hcb1 : w1.cell? ⟨w.heap.size, 1, none⟩ = some (.slice ea len cap) := by
    rw [hb.cell (p := ⟨w.heap.size, 1, none⟩) (by simp), World.cell?_alloc_at _ _ _ _ rfl]; rfl
  have hbel : Below w.heap.size w w1 := ((Below.refl _ _).alloc (Nat.le_refl _) _).trans (hb.mono (by simp))
  clear HH hb
  cases ea with
  | none =>
    go_wp2_with fail
    go_ret
    exact ⟨_, rfl, ⟨fun _ => ⟨_, rfl⟩, fun h => absurd rfl h⟩, hbel.alloc hbel.size _⟩
  | some x =>
    go_wp2_with fail
    go_ret
    exact ⟨_, rfl, ⟨(fun h => by cases h), fun _ => rfl⟩, hbel⟩

/-! ### The loop of Events, where there is a quiet event: outside the walk -/
theorem c13_snoc (l : List Int) (k : Int) : c13 (l ++ [k]) = c13 l + if k = 13 then 1 else 0 := by
  unfold c13
  rw [List.filter_append, List.length_append]
  by_cases h : k = 13 <;> simp [h]

theorem c13_append (l m : List Int) : c13 (l ++ m) = c13 l + c13 m := by
  unfold c13
  rw [List.filter_append, List.length_append]

theorem c13_cons13 (l : List Int) : c13 (13 :: l) = c13 l + 1 := by simp [c13]

theorem c13_evs (l : List Int) : c13 (evs l) = c13 l := by
  unfold c13 evs
  rw [List.filter_filter]
  congr 1
  apply List.filter_congr
  intro k _
  by_cases h : k = 13 <;> simp [h]

theorem outs_snoc (l : List Int) (k : Int) (es : List (ByteArray × ByteArray)) : outs (l ++ [k]) es = outs l es ++ [if k = 13 then es.getD (c13 l) (⟨#[]⟩, ⟨#[]⟩) else (⟨#[]⟩, ⟨#[]⟩)] := by
  induction l generalizing es with
  | nil =>
    by_cases h : k = 13
    · cases es <;> simp [outs, h, c13]
    · simp [outs, h]
  | cons a l ih =>
    by_cases h : a = 13
    · subst h
      have e : c13 (13 :: l) = c13 l + 1 := by simp [c13]
      simp only [List.cons_append, outs, if_true, ih, e]
      cases es <;> simp
    · have e : c13 (a :: l) = c13 l := by simp [c13, h]
      simp only [List.cons_append, outs, if_neg h, ih, e]

theorem outs_len (l : List Int) (es : List (ByteArray × ByteArray)) : (outs l es).length = l.length := by
  induction l generalizing es with
  | nil => rfl
  | cons a l ih => simp only [outs]; split <;> simp [ih]

/-- What holds of the loop's own memory. -/
structure Lp (w wr : World) (C g len : Nat) (es : List (ByteArray × ByteArray)) (pre : List Int) (v : Value) (sa : Option Addr) (t : ByteArray) : Prop where
  own : wr.ownsRow w.heap.size 43 2 v (evs pre).length (flat (outs (evs pre) es))
  nn : v ≠ .slice none 0 0
  said : c13 pre < len → sa = some ⟨g, c13 pre * 2, none⟩
  cell : wr.cell? ⟨C, 0, none⟩ = some (.string t)
  frozen : wr.frozen? ⟨C, 0, none⟩ = false
  kind : ∃ cs, wr.heap[C]? = some (.cells cs 53 (0, 0))
  base : w.heap.size ≤ C
  lt : C < wr.heap.size
  below : Below w.heap.size w wr

section
variable {w wr : World} {C g len : Nat} {es : List (ByteArray × ByteArray)} {pre : List Int} {v : Value} {sa : Option Addr} {t : ByteArray}

theorem own_ne {w : World} {base C n : Nat} {v : Value} {xs : List Value} (h : w.ownsRow base 43 2 v n xs) (hk : ∃ cs, w.heap[C]? = some (.cells cs 53 (0, 0))) : v.ownBlock ≠ some C := by
  obtain ⟨cs, hk⟩ := hk
  intro e
  rcases h.2 with ⟨rfl, _⟩ | ⟨g, cap, cur, rfl, _, hg, _⟩
  · simp [Value.ownBlock] at e
  · simp [Value.ownBlock] at e
    subst e
    rw [hg] at hk
    simp at hk

theorem Lp.alloc (h : Lp w wr C g len es pre v sa t) (o : Obj) : Lp w (wr.alloc o) C g len es pre v sa t where
  own := h.own.alloc o
  nn := h.nn
  said := h.said
  cell := by rw [World.cell?_alloc_past _ _ _ h.lt]; exact h.cell
  frozen := by
    have hb := (Below.refl (wr.heap.size) wr).alloc (Nat.le_refl _) o
    rw [hb.frozen (p := ⟨C, 0, none⟩) h.lt]; exact h.frozen
  kind := by obtain ⟨cs, hk⟩ := h.kind; exact ⟨cs, by rw [Below.heap_alloc _ _ _ h.lt]; exact hk⟩
  base := h.base
  lt := by have := h.lt; simp; omega
  below := h.below.alloc h.below.size o

theorem Lp.drew (h : Lp w wr C g len es pre v sa t) : Lp w wr.drew C g len es pre v sa t :=
  ⟨h.own.drew, h.nn, h.said, h.cell, h.frozen, h.kind, h.base, h.lt, h.below.drew⟩

theorem Lp.next {w2 : World} {r : List Int} {k2 : Int} {ok2 : Bool} {t2 : ByteArray} (h : Lp w wr C g len es pre v sa t) (hst : Items.Stepped wr w2 C r k2 ok2 t2) : Lp w w2 C g len es pre v sa t2 where
  own := h.own.kept hst.moved.grown (.inr (own_ne h.own h.kind))
  nn := h.nn
  said := h.said
  cell := hst.moved.cell
  frozen := hst.moved.frozen
  kind := by obtain ⟨cs, hk⟩ := h.kind; exact hst.moved.kind cs 53 hk
  base := h.base
  lt := by rw [hst.moved.size]; exact h.lt
  below := h.below.grown hst.moved.grown h.below.size (fun k hk => by cases hk; exact h.base)

theorem Lp.appended {w1 : World} {v' : Value} {sa' : Option Addr} {kk : Int} {a b : ByteArray} (h : Lp w wr C g len es pre v sa t)
    (hown : w1.ownsRow w.heap.size 43 2 v' ((evs pre).length + 1) (flat (outs (evs pre) es) ++ [.string a, .string b])) (hgrow : wr.grownBy w1 v.ownBlock) (hnn : v' = .slice none 0 0 ↔ v = .slice none 0 0 ∧ 1 = 0)
    (he : evs (pre ++ [kk]) = evs pre ++ [kk]) (hab : (if kk = 13 then es.getD (c13 pre) (⟨#[]⟩, ⟨#[]⟩) else (⟨#[]⟩, ⟨#[]⟩)) = (a, b)) (hsa : c13 (pre ++ [kk]) < len → sa' = some ⟨g, c13 (pre ++ [kk]) * 2, none⟩) :
    Lp w w1 C g len es (pre ++ [kk]) v' sa' t := by
  have hne := own_ne h.own h.kind
  obtain ⟨cs, hk⟩ := h.kind
  have hblk : w1.heap[C]? = wr.heap[C]? := hgrow.block C h.lt (fun e => hne e.symm)
  refine ⟨?_, ?_, hsa, (World.cell?_of_block (a := ⟨C, 0, none⟩) hblk).trans h.cell, (World.frozen?_of_block (a := ⟨C, 0, none⟩) hblk).trans h.frozen, ⟨cs, hblk.trans hk⟩, h.base, Nat.lt_of_lt_of_le h.lt hgrow.size, h.below.grown hgrow h.below.size (fun k hk => (h.own.lt k hk).1)⟩
  · rw [he, List.length_append, outs_snoc, c13_evs, hab, flat_append]
    exact hown
  · intro e
    exact h.nn (hnn.1 e).1
end

theorem slice_eq {a : Option Addr} {n m : Nat} (h : n = m) : Value.slice a n n = .slice a m m := by rw [h]

theorem lp_start {w w1 : World} {es : List (ByteArray × ByteArray)} {len g : Nat} {ea : Option Addr} (s : ByteArray) (hbel : Below w.heap.size w w1) (hea : 0 < len → ea = some ⟨g, 0, none⟩) :
    Lp w ((w1.alloc (.cells ten 43)).alloc (.cells #[.string s] 53)).drew (w1.heap.size + 1) g len es [] (.slice (some ⟨w1.heap.size, 0, none⟩) 0 10) ea s := by
  have hsz := hbel.size
  refine Lp.drew ⟨?_, by simp, fun h => by simpa [c13] using hea h, ?_, World.frozen?_alloc_at _ _ _ _ (by simp), ⟨#[.string s], ?_⟩, by omega, by simp, (hbel.alloc hbel.size _).alloc (by simp; omega) _⟩
  · exact (World.ownsRow_made w1 ten 10 hsz (by unfold maxLen; decide) rfl).alloc _
  · rw [World.cell?_alloc_at _ _ _ _ (by simp)]; rfl
  · have h := heap_alloc_new (w1.alloc (.cells ten 43)) (.cells #[.string s] 53)
    simpa using h

set_option maxHeartbeats 2000000 in
set_option maxRecDepth 100000 in
theorem events_quiet (s : ByteArray) (ks : List Int) (ea : Option Addr) (len g : Nat) (es : List (ByteArray × ByteArray)) (w : World) (hs : s.size ≤ 1048576) (hch : Chain s ks) (hkl : ks.length ≤ 1048576) (h14 : (14 : Int) ∈ ks)
    (hlen : len ≤ 65536) (hes : es.length = len) (hcount : c13 ks = len) (hea : 0 < len → ea = some ⟨g, 0, none⟩) (hg : 0 < len → g < w.heap.size)
    (hc0 : ∀ j, j < len → w.cell? ⟨g, j * 2, none⟩ = some (.string (es.getD j (⟨#[]⟩, ⟨#[]⟩)).1)) (hc1 : ∀ j, j < len → w.cell? ⟨g, j * 2 + 1, none⟩ = some (.string (es.getD j (⟨#[]⟩, ⟨#[]⟩)).2)) :
    Calls Try.prog 21 #[.agg #[.string s, .slice ea len len]] w fun e w' => ∃ v, e = .returned v ∧ v ≠ .slice none 0 0 ∧ w'.ownsRow w.heap.size 43 2 v (evs ks).length (flat (outs (evs ks) es)) ∧ Below w.heap.size w w' := by
  have HH := Items.has_any s (.slice ea len len) ks 14 (w.alloc (.cells #[.string s, .slice ea len len] 45)) (by omega) hch
  rw [decide_eq_true h14] at HH
  obtain ⟨i0, hi, hz0, hz1, hz2⟩ := info_parts info43
  have hmk := make_ten
  clear h14
  go_enter Try.func21, Try.ntmps21
  go_wp2_with fail
  refine HH.mono ?_
  rintro e w1 ⟨rfl, hb⟩
  have hcb0 : w1.cell? ⟨w.heap.size, 0, none⟩ = some (.string s) := by
    rw [hb.cell (p := ⟨w.heap.size, 0, none⟩) (by simp), World.cell?_alloc_at _ _ _ _ rfl]; rfl
  have hcb1 : w1.cell? ⟨w.heap.size, 1, none⟩ = some (.slice ea len len) := by
    rw [hb.cell (p := ⟨w.heap.size, 1, none⟩) (by simp), World.cell?_alloc_at _ _ _ _ rfl]; rfl
  have hbel : Below w.heap.size w w1 := ((Below.refl _ _).alloc (Nat.le_refl _) _).trans (hb.mono (by simp))
  have hsz1 : w.heap.size < w1.heap.size := by have := hb.size; simp at this; omega
  clear HH hb
  go_wp2_with fail
  go_region
  go_wp2_with fail
  have hL0 := lp_start (es := es) (len := len) (g := g) (ea := ea) s hbel hea
  refine (Items.next_chain (w1.heap.size + 1) ks s _ (by omega) hch hL0.cell hL0.frozen).mono ?_
  rintro e w2 ⟨kk, x, ok, t', rfl, hst⟩
  have hL1 := hL0.next hst
  have HW : Hid _ := hst.what
  have ht1 := hst.size
  clear hL0 hst hch hcb0 hcb1 hmk
  go_wp2_with fail
  go_loopg [3, 4, 6, 8] ks.length (fun gk v sv k okv wr => ∃ (kk : Int) (ok : Bool) (t' : ByteArray) (pre rest : List Int) (sa : Option Addr), sv = .slice sa (len - c13 pre) (len - c13 pre) ∧ k = .int .u8 kk ∧ okv = .bool ok ∧ Hid (ks = pre ++ rest) ∧ Hid (gk = rest.length) ∧
      Hid ((rest = [] ∧ ok = false) ∨ ∃ r, rest = kk :: r ∧ ok = true ∧ Chain t' r) ∧ t'.size ≤ 9223372036854775806 ∧ Hid (Lp w wr (w1.heap.size + 1) g len es pre v sa t'))
  case atStart => exact ⟨kk, ok, t', [], ks, ea, rfl, rfl, rfl, rfl, rfl, HW, ht1, hL1⟩
  case round =>
    obtain ⟨kk, ok, t', pre, rest, sa, rfl, rfl, rfl, HP, HG, HW, ht, HL⟩ := hrel
    clear hL1 ht1
    have hw := HW.out
    clear HW
    rcases hw with ⟨rfl, rfl⟩ | ⟨r, rfl, rfl, hch⟩
    · have hpk : pre = ks := by have h := HP.out; rw [List.append_nil] at h; exact h.symm
      subst hpk
      go_wp2_with fail
      go_ret
      exact ⟨_, rfl, HL.out.nn, HL.out.own, HL.out.below⟩
    · have HC : Hid (Chain t' r) := hch
      clear hch
      by_cases h13 : (kk == 13) = true
      · have hk13 := WalkArith.int_eq h13
        have hm : c13 pre < len := by
          have h := hcount
          rw [HP.out, hk13, c13_append, c13_cons13] at h
          omega
        have hel : (evs pre).length ≤ 1048576 := by
          have h1 := Items.evs_len pre
          have h2 : pre.length ≤ ks.length := by rw [HP.out]; simp
          omega
        have e1 : c13 (pre ++ [kk]) = c13 pre + 1 := by rw [c13_snoc, if_pos hk13]
        have hsa := HL.out.said hm
        subst hsa
        have hgw := hg (by omega)
        have hcl0 := (HL.out.below.cell (p := ⟨g, c13 pre * 2, none⟩) hgw).trans (hc0 _ hm)
        have hcl1 := (HL.out.below.cell (p := ⟨g, c13 pre * 2 + 1, none⟩) hgw).trans (hc1 _ hm)
        have hown0 := HL.out.own
        have hszr := HL.out.below.size
        obtain ⟨M, hM⟩ : ∃ M, M = c13 pre := ⟨_, rfl⟩
        obtain ⟨N, hN⟩ : ∃ N, N = len - M := ⟨_, rfl⟩
        rcases hE : es.getD (c13 pre) (⟨#[]⟩, ⟨#[]⟩) with ⟨ta, tb⟩
        rw [hE] at hcl0 hcl1
        have HKK : Hid (kk = 13) := hk13
        have HE : Hid (es.getD (c13 pre) (⟨#[]⟩, ⟨#[]⟩) = (ta, tb)) := hE
        have E1 : Hid (c13 (pre ++ [kk]) = c13 pre + 1) := e1
        have HMM : Hid (M = c13 pre) := hM
        have HNN : Hid (N = len - M) := hN
        rw [← hM] at hcl0 hcl1 hm ⊢
        rw [← hN]
        have hN1 : 1 ≤ N := by omega
        have hN2 : N ≤ 65536 := by omega
        have hN3 : (0 : Int) < (N : Int) := by omega
        have hN4 : (1 : Int) ≤ (N : Int) := by omega
        have hN5 : 0 < N := by omega
        clear hk13 e1 hE hM hN hc0 hc1
        simp only at hcl0 hcl1
        go_upto_block 2 with fail
        go_cut [3, 4] (fun v' sv' wx => ∃ sa', sv' = .slice sa' (len - c13 (pre ++ [kk])) (len - c13 (pre ++ [kk])) ∧ Hid (Lp w wx (w1.heap.size + 1) g len es (pre ++ [kk]) v' sa' t'))
        case first =>
          go_wp2_with fail
          go_region_law (refine step_append_own rfl (.tmp 39) (.tmp 43) 41 rfl w.heap.size 43 i0 (.agg #[.string ⟨#[]⟩, .string ⟨#[]⟩]) 2 32 Try.underlying41 hi hz0 hz1 hz2 rfl (by decide) _ _ _ (by simp [Act.eval]) (hown0.alloc _).drew ⟨wr.heap.size, 0, none⟩ 1 1 [.string ta, .string tb] (by simp [Act.eval]) rfl (cell_two_new _ _ _ _) (by intro u hu; simp at hu; rcases hu with rfl | rfl <;> rfl) (by unfold maxLen; omega) (by omega) (by simp; omega) ?_; intro v' w3 hown3 hgrow3 hnn3)
          all_goals go_wp2_with fail
          all_goals
            go_meet
            have h1 := E1.out
            have h2 := HMM.out
            have h3 := HNN.out
            refine ⟨_, slice_eq (by omega), ((HL.out.alloc _).drew).appended hown3 hgrow3 hnn3 (Items.evs_keep pre (.inl HKK.out)) (by rw [if_pos HKK.out, HE.out]) ?_⟩
            intro h
            have h4 : c13 (pre ++ [kk]) * 2 = M * 2 + 2 := by omega
            first
              | (exfalso; omega)
              | rw [h4]
        case rest =>
          obtain ⟨sa', rfl, HL2⟩ := hcut
          have HX := Items.next_chain (w1.heap.size + 1) r t' wc ht HC.out HL2.out.cell HL2.out.frozen
          clear hown0
          go_wp2_with (go_at_call 26; refine HX.mono ?_; rintro e w4 ⟨k2, x2, ok2, t2, rfl, hst2⟩)
          go_roundg r.length
          case measure => rw [HG.out]; simp
          case rel => exact ⟨k2, ok2, t2, pre ++ [kk], r, sa', rfl, rfl, rfl, by have h := HP.out; show ks = _; rw [h]; simp, rfl, hst2.what, hst2.size, HL2.out.next hst2⟩
      · have h13' : (kk == 13) = false := by simpa using h13
        by_cases h14 : (kk == 14) = true
        · have hel : (evs pre).length ≤ 1048576 := by
            have h1 := Items.evs_len pre
            have h2 : pre.length ≤ ks.length := by rw [HP.out]; simp
            omega
          have hown0 := HL.out.own
          have hszr := HL.out.below.size
          go_wp2_with (at_builtin; refine wpList_append_own _ rfl (.tmp 49) (.tmp 51) 41 rfl w.heap.size 43 i0 (.agg #[.string ⟨#[]⟩, .string ⟨#[]⟩]) 2 32 Try.underlying41 hi hz0 hz1 hz2 rfl (by decide) _ _ _ rfl (hown0.alloc _) ⟨wr.heap.size, 0, none⟩ 1 1 [_, _] rfl rfl (cell_two_new _ _ _ _) (by intro u hu; simp at hu; subst hu; rfl) (by unfold maxLen; omega) (by omega) (by simp; omega) ?_; intro v' w3 hown3 hgrow3 hnn3)
          have hk14 := WalkArith.int_eq h14
          have e1 : c13 (pre ++ [kk]) = c13 pre := by rw [c13_snoc, if_neg (by omega)]; rfl
          have hL3 : Lp w w3 (w1.heap.size + 1) g len es (pre ++ [kk]) v' sa t' := (HL.out.alloc _).appended hown3 hgrow3 hnn3 (Items.evs_keep pre (.inr hk14)) (by rw [if_neg (by omega)]) (by rw [e1]; exact HL.out.said)
          have HX := Items.next_chain (w1.heap.size + 1) r t' w3 ht HC.out hL3.cell hL3.frozen
          have HL3 : Hid (Lp w w3 (w1.heap.size + 1) g len es (pre ++ [kk]) v' sa t') := hL3
          have E1 : Hid (c13 (pre ++ [kk]) = c13 pre) := e1
          clear hL3 hown0 hown3 hgrow3 hnn3 hk14 e1
          refine HX.mono ?_
          rintro e w4 ⟨k2, x2, ok2, t2, rfl, hst2⟩
          go_wp2_with fail
          go_roundg r.length
          case measure => rw [HG.out]; simp
          case rel => exact ⟨k2, ok2, t2, pre ++ [kk], r, sa, by rw [E1.out], rfl, rfl, by have h := HP.out; show ks = _; rw [h]; simp, rfl, hst2.what, hst2.size, HL3.out.next hst2⟩
        · have h14' : (kk == 14) = false := by simpa using h14
          have HX := Items.next_chain (w1.heap.size + 1) r t' wr ht HC.out HL.out.cell HL.out.frozen
          go_wp2_with (go_at_call 26; refine HX.mono ?_; rintro e w3 ⟨k2, x2, ok2, t2, rfl, hst2⟩)
          go_roundg r.length
          case measure => rw [HG.out]; simp
          case rel =>
            have hn13 := WalkArith.int_ne h13'
            have hn14 := WalkArith.int_ne h14'
            have e1 : c13 (pre ++ [kk]) = c13 pre := by rw [c13_snoc, if_neg hn13]; rfl
            have e2 : evs (pre ++ [kk]) = evs pre := Items.evs_drop pre hn13 hn14
            have hL2 := HL.out.next hst2
            exact ⟨k2, ok2, t2, pre ++ [kk], r, sa, by rw [e1], rfl, rfl, by have h := HP.out; show ks = _; rw [h]; simp, rfl, hst2.what, hst2.size, ⟨by rw [e2]; exact hL2.own, hL2.nn, by rw [e1]; exact hL2.said, hL2.cell, hL2.frozen, hL2.kind, hL2.base, hL2.lt, hL2.below⟩⟩

theorem outs_all (l : List Int) (es : List (ByteArray × ByteArray)) (h : ∀ k ∈ l, k = 13) (hl : l.length = es.length) : outs l es = es := by
  induction l generalizing es with
  | nil => cases es with
    | nil => rfl
    | cons e es => simp at hl
  | cons a l ih =>
    cases es with
    | nil => simp at hl
    | cons e es =>
      have ha := h a List.mem_cons_self
      simp only [outs, if_pos ha, List.headD_cons, List.tail_cons]
      rw [ih es (fun k hk => h k (List.mem_cons_of_mem _ hk)) (by simpa using hl)]

theorem evs_13 (ks : List Int) (h : (14 : Int) ∉ ks) : (∀ k ∈ evs ks, k = 13) ∧ (evs ks).length = c13 ks := by
  constructor
  · intro k hk
    simp [evs] at hk
    rcases hk.2 with h2 | h2
    · exact h2
    · exact absurd (h2 ▸ hk.1) h
  · unfold evs c13
    congr 1
    apply List.filter_congr
    intro k hk
    have : k ≠ 14 := fun e => h (e ▸ hk)
    simp [this]

/-- What Events gives. -/
structure Got (w' : World) (x : Addr) (n : Nat) (os : List (ByteArray × ByteArray)) : Prop where
  leng : os.length = n
  at_ : 0 < n → ∃ g, x = ⟨g, 0, none⟩ ∧ g < w'.heap.size ∧ (∀ j, j < n → w'.cell? ⟨g, j * 2, none⟩ = some (.string (os.getD j (⟨#[]⟩, ⟨#[]⟩)).1)) ∧ ∀ j, j < n → w'.cell? ⟨g, j * 2 + 1, none⟩ = some (.string (os.getD j (⟨#[]⟩, ⟨#[]⟩)).2)

theorem events_any (s : ByteArray) (ks : List Int) (ea : Option Addr) (len g : Nat) (es : List (ByteArray × ByteArray)) (w : World) (hs : s.size ≤ 1048576) (hch : Chain s ks) (hkl : ks.length ≤ 1048576)
    (hlen : len ≤ 65536) (hes : es.length = len) (hcount : c13 ks = len) (hnil : ea = none → len = 0) (hea : 0 < len → ea = some ⟨g, 0, none⟩) (hg : 0 < len → g < w.heap.size)
    (hc0 : ∀ j, j < len → w.cell? ⟨g, j * 2, none⟩ = some (.string (es.getD j (⟨#[]⟩, ⟨#[]⟩)).1)) (hc1 : ∀ j, j < len → w.cell? ⟨g, j * 2 + 1, none⟩ = some (.string (es.getD j (⟨#[]⟩, ⟨#[]⟩)).2)) :
    Calls Try.prog 21 #[.agg #[.string s, .slice ea len len]] w fun e w' => ∃ x c, e = .returned (.slice (some x) (evs ks).length c) ∧ Got w' x (evs ks).length (outs (evs ks) es) ∧ Below w.heap.size w w' := by
  by_cases h14 : (14 : Int) ∈ ks
  · refine (events_quiet s ks ea len g es w hs hch hkl h14 hlen hes hcount hea hg hc0 hc1).mono ?_
    rintro e w' ⟨v, rfl, hnn, hown, hbel⟩
    have hol : (outs (evs ks) es).length = (evs ks).length := outs_len _ _
    have h2 := hown.2
    rcases h2 with ⟨h, _⟩ | ⟨g', cap, cur, rfl, _, hgg, _⟩
    · exact absurd h hnn
    · refine ⟨_, _, rfl, ⟨hol, fun _ => ⟨g', rfl, (hown.lt g' rfl).2, fun j hj => ?_, fun j hj => ?_⟩⟩, hbel⟩
      · rw [hown.cellAt (j * 2) (by omega), flat_fst _ j (by omega)]
      · rw [hown.cellAt (j * 2 + 1) (by omega), flat_snd _ j (by omega)]
  · obtain ⟨h13, hel⟩ := evs_13 ks h14
    have hn : (evs ks).length = len := by omega
    have ho : outs (evs ks) es = es := outs_all _ _ h13 (by omega)
    refine (events_plain s ks ea len len w hs hch h14).mono ?_
    rintro e w' ⟨v, rfl, hv, hbel⟩
    rw [hn, ho]
    cases ea with
    | none =>
      obtain ⟨x, rfl⟩ := hv.nil rfl
      have hl0 := hnil rfl
      subst hl0
      exact ⟨x, _, rfl, ⟨hes, fun h => absurd h (by omega)⟩, hbel⟩
    | some y =>
      have hv2 := hv.own (by simp)
      subst hv2
      refine ⟨y, _, rfl, ⟨hes, fun h => ?_⟩, hbel⟩
      have hy := hea h
      have hgw := hg h
      have hsz := hbel.size
      refine ⟨g, by simpa using hy, by omega, fun j hj => ?_, fun j hj => ?_⟩
      · rw [hbel.cell (p := ⟨g, j * 2, none⟩) hgw]; exact hc0 j hj
      · rw [hbel.cell (p := ⟨g, j * 2 + 1, none⟩) hgw]; exact hc1 j hj
end Go.Proofs.Qxb6603013a.Ev
