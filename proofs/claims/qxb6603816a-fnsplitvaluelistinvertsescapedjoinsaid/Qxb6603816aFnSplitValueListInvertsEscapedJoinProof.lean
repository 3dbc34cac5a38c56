/-
  A PROOF OF 'Rows.FnSplitValueListInvertsEscapedJoinSaid': the frame is the guide's (its shell for a slice of integers, turned to a slice of slices by 'open_int_rows'); the walk is ours.
-/
import Derived.Test.Qxb6603816aRows
import Derived.Test.Qxb6603816aJoin
import Derived.WalkKit
import Derived.ProofKit
import Derived.OpenShut
import Derived.ShutString
import Derived.ChangeOld
import Derived.Below
import Derived.Deep.Matrix
namespace Go.Proofs.Qxb6603816a.fnSplitValueListInvertsEscapedJoin
open Go.ChangeShapes Go.WideShapes Go.ChangeAt Go.RowKit
set_option linter.unusedVariables false

theorem own : ownKnob Try.prog.godebug = none := by kernel_rfl
theorem laidOut : laidOutB Try.prog = true := by kernel_rfl

/-- WHAT THE WALK IS TOLD OF A SLICE OF BYTE SLICES THAT CAME IN: it is nil; or it leads to a row of 'cap' cells, each of which holds a slice, nil or not, and each of these leads to its own bytes. -/
def IsRows (w : World) (a : Option Addr) (len cap : Nat) (A : Nat → Option Addr) (L C : Nat → Nat) (Z : Nat → List Int) : Prop :=
  (a = none ∧ len = 0) ∨
  ∃ x, a = some x ∧ len ≤ cap ∧ ∀ r, r < cap → w.cell? (x.add r) = some (.slice (A r) (L r) (C r)) ∧ L r ≤ C r ∧ (Z r).length = C r ∧ (A r = none → C r = 0) ∧ ∀ a', A r = some a' → ∀ c, c < C r → w.cell? (a'.add c) = some (.int .u8 ((Z r).getD c 0))

/-! ### THE WALK -/
theorem quiet_add {P : Program} {f : FuncId} {args : Array Value} {w : World} {a x : Nat} {v : Value} (h : Calls P f args (w.drewN (a + x)) fun e w' => e = .returned v ∧ ∃ m, w' = (w.drewN (a + x)).drewN m) :
    Calls P f args (w.drewN (a + x)) fun e w'' => e = .returned v ∧ ∃ n, w'' = w.drewN (a + n) :=
  h.mono fun _ _ ⟨he, m, hm⟩ => ⟨he, x + m, by rw [hm, World.drewN_drewN, Nat.add_assoc]⟩

set_option maxRecDepth 100000 in
theorem walk_none (a : Option Addr) (cap : Nat) (w : World) :
    Calls Try.prog 4 #[.slice a 0 cap] w fun e w' => e = .returned (.bool true) ∧ Below w.heap.size w w' := by
  go_enter Try.func4, Try.ntmps4
  go_wp2_with (go_at_call 12; refine (zz12_none _ _ _).mono ?_; rintro e w' ⟨rfl, rfl⟩)
  refine wp_loop_rounds 1 ?_
  rw [rounds_succ]
  go_wp2
  go_ret
  exact ⟨rfl, Below.refl _ _⟩

set_option maxRecDepth 100000 in
theorem walk_long (a : Option Addr) (n cap : Nat) (w : World) (h : decide ((1048576 : Int) < (n : Int)) = true) :
    Calls Try.prog 4 #[.slice a n cap] w fun e w' => e = .returned (.bool true) ∧ Below w.heap.size w w' := by
  go_enter Try.func4, Try.ntmps4
  go_wp2_with (go_at_call 12; refine (zz12_long _ _ _ _ h).mono ?_; rintro e w' ⟨rfl, rfl⟩)
  go_ret
  exact ⟨rfl, Below.refl _ _⟩

set_option maxRecDepth 100000 in
set_option maxHeartbeats 3200000 in
theorem walk_main (b o cap : Nat) (its : List (List Int)) (w : World) (h : decide ((1048576 : Int) < (its.length : Int)) = false) (hl : its.length / 1048577 = 0) (h0 : 0 < its.length) (ht : Tab w b o its) :
    Calls Try.prog 4 #[.slice (some ⟨b, o, none⟩) its.length cap] w fun e w' => e = .returned (.bool true) ∧ Below w.heap.size w w' := by
  have q := q22
  have HT := hide ht
  clear ht
  go_enter Try.func4, Try.ntmps4
  go_wp2_with fail
  refine (zz12_some b o cap its _ h hl HT.out).mono ?_
  rintro e w' ⟨v, rfl, rfl, hv⟩
  clear h
  rcases hv with rfl | ⟨rfl, hi⟩
  · go_wp2
    go_ret
    exact ⟨rfl, Below.refl _ _⟩
  have HI := hide hi
  clear hi
  by_cases h16 : 65536 < its.length
  · have d1 : decide ((65536 : Int) < (its.length : Int)) = true := decide_eq_true (by omega)
    clear h16
    go_wp2
    go_ret
    exact ⟨rfl, Below.refl _ _⟩
  have d1 : decide ((65536 : Int) < (its.length : Int)) = false := decide_eq_false (by omega)
  have hl16 : its.length / 65537 = 0 := by omega
  have dz : ((its.length : Int) == 0) = false := beq_eq_false_iff_ne.2 (by omega)
  clear h16 hl
  go_wp2
  go_loop [3, 4] (fun z i => ∃ k T : Nat, k ≤ its.length ∧ T / 2097152 = 0 ∧ i = .int .i64 k ∧ z = .int .i64 T ∧ Hid (T = 24 * its.length + sumL (its.take k)) ∧ Hid (k = 0 ∨ T ≤ 1048576)) (fun _ i => its.length - (intOf i).toNat)
  case atStart => exact ⟨0, 24 * its.length, Nat.zero_le _, by omega, rfl, by go_num, (by simp [sumL] : 24 * its.length = 24 * its.length + sumL (its.take 0)), .inl rfl⟩
  case round =>
    obtain ⟨k, T, hk, hT, rfl, rfl, HS, HK⟩ := hrel
    by_cases hlt : k < its.length
    · obtain ⟨a, c, g1, _, _⟩ := HT.out.2 k hlt
      obtain ⟨n, hn⟩ : ∃ n, n = (its.getD k []).length := ⟨_, rfl⟩
      have hn1 := HI.out k hlt
      rw [← hn] at g1 hn1
      have HS1 : Hid (T + n = 24 * its.length + sumL (its.take (k + 1))) := by
        show _ = _
        rw [sumL_take hlt, ← hn, HS.out]; omega
      clear hn
      by_cases h2 : 1048576 < T + n
      · have d2 : decide ((1048576 : Int) < (T : Int) + (n : Int)) = true := decide_eq_true (by omega)
        clear h2
        go_wp2
        go_ret
        exact ⟨rfl, Below.refl _ _⟩
      · have d2 : decide ((1048576 : Int) < (T : Int) + (n : Int)) = false := decide_eq_false (by omega)
        have d4 : (T + n) / 2097152 = 0 := by omega
        have HK1 : Hid (k + 1 = 0 ∨ T + n ≤ 1048576) := .inr (by omega)
        clear h2
        go_wp2
        go_round
        case rel => exact ⟨k + 1, T + n, by omega, d4, by go_num, by go_num, HS1, HK1⟩
        case measure => simp [intOf]; omega
    · have hsum : sumL its / 1048577 = 0 := by
        have e1 := HS.out
        rw [List.take_of_length_le (by omega)] at e1
        rcases HK.out with r | r
        · omega
        · omega
      clear HS HK
      have hl2 : its.length / 1048577 = 0 := by omega
      go_wp2_with fail
      refine (cloneItems_any b o cap its _ hl2 HI.out HT.out).mono ?_
      rintro e w1 ⟨rfl, hB1, hT1⟩
      have HB1 := hide hB1
      have HT1 := hide hT1
      have hs1 := hB1.size
      clear hB1 hT1 HT
      go_wp2_with fail
      refine (join_any w'.heap.size 0 _ its _ hl2 hsum HT1.out).mono ?_
      rintro e w2 ⟨v2, rfl, hB2, hO2⟩
      have HB2 := hide hB2
      have HT2 := hide (HT1.out.kept hB2)
      have hs2 := hB2.size
      obtain ⟨t, htt⟩ : ∃ t, t = Pl.joinE its := ⟨_, rfl⟩
      have htl : t.length / 1099511627776 = 0 := by
        have := join_len its
        rw [htt]
        omega
      rw [← htt] at hO2
      obtain ⟨a2, c2, rfl, _, t2, _⟩ := txt_of_owns hO2
      have TT := hide t2
      have HTT := hide htt
      clear hB2 HT1 hO2 t2 htt
      go_wp2_with fail
      refine (zzSplit_any a2 c2 t _ htl TT.out).mono ?_
      rintro e w3 ⟨v3, rfl, hB3, hI3⟩
      rw [HTT.out, Pl.law2 its (fun hh => by rw [hh] at h0; simp at h0)] at hI3
      have hs3 := hB3.size
      have HT3 := hide (HT2.out.kept hB3)
      have HB := hide ((HB1.out.trans (HB2.out.mono hs1)).trans (hB3.mono (by omega)))
      obtain ⟨g1, p1, rfl, r1, _, _, f1⟩ := hI3.form h0
      have F1 := hide f1
      have d0 : ((its.length : Int) != (its.length : Int)) = false := by simp
      clear hI3 hB3 HB1 HB2 HT2 TT HTT f1
      go_wp2
      go_loopw [7] (fun i wr => ∃ k n : Nat, k ≤ its.length ∧ i = .int .i64 k ∧ wr = w3.drewN n) (fun i _ => its.length - (intOf i).toNat)
      case atStart => exact ⟨0, 0, Nat.zero_le _, rfl, rfl⟩
      case round =>
        obtain ⟨k2, n, hk2, rfl, rfl⟩ := hrel
        by_cases hlt2 : k2 < its.length
        · obtain ⟨e1, x1, o1⟩ := F1.out k2 hlt2
          obtain ⟨a3, c3, x2, t3, _⟩ := HT3.out.2 k2 hlt2
          rw [Nat.zero_add] at x2
          obtain ⟨l, hll⟩ : ∃ l, l = its.getD k2 [] := ⟨_, rfl⟩
          rw [← hll] at o1 x2 t3
          clear hll
          have q1 : (k2 : Int) < (its.length : Int) := by omega
          by_cases hnl : l = []
          · subst hnl
            have e1n := o1.2 rfl
            subst e1n
            rw [List.length_nil] at x2
            clear o1 t3
            go_wp2
            go_quiet (fail)
            go_wp2
            go_quiet ((go_at_call 11; exact quiet_add (same_none none a3 0 c3 _)))
            go_wp2
            go_roundw
            case rel => exact ⟨k2 + 1, _, by omega, by go_num, rfl⟩
            case measure => simp [intOf]; omega
          · have dl : ((l.length : Int) == 0) = false := beq_eq_false_iff_ne.2 (by have := List.length_pos_iff.2 hnl; omega)
            obtain ⟨a4, m4, he1, _, t1, _⟩ := txt_of_owns o1.1
            obtain ⟨h1, m1, rfl, _, _, _, _⟩ := o1.form hnl
            simp only [Value.slice.injEq, true_and] at he1
            obtain ⟨rfl, rfl⟩ := he1
            have T1 := hide t1
            have T3 := hide t3
            have HLL := hide (owns_len o1.1)
            clear o1 hnl t1 t3
            go_wp2
            go_quiet (fail)
            go_wp2
            go_quiet ((go_at_call 11; exact quiet_add (same_any _ _ _ _ l _ HLL.out (by exact T1.out) (by exact T3.out))))
            go_wp2
            go_roundw
            case rel => exact ⟨k2 + 1, _, by omega, by go_num, rfl⟩
            case measure => simp [intOf]; omega
        · go_wp2
          go_ret
          exact ⟨rfl, HB.out.trans ⟨rfl, rfl, rfl, Nat.le_refl _, fun _ _ => rfl⟩⟩

/-- A row of bytes that came in is a text. -/
theorem txt_of {w : World} {a : Option Addr} {len cap : Nat} {zs : List Int} (hlc : len ≤ cap) (hz : zs.length = cap) (hn : a = none → cap = 0) (hc : ∀ x, a = some x → ∀ i, i < cap → w.cell? (x.add i) = some (.int .u8 (zs.getD i 0))) : Txt w a (zs.take len) := by
  rcases Nat.eq_zero_or_pos len with h0 | h0
  · subst h0; exact .inl (by simp)
  · cases a with
    | none => have := hn rfl; omega
    | some x =>
      have hc := hc x rfl
      obtain ⟨b, off, spot⟩ := x
      have hs : spot = none := by simpa [Addr.add] using World.cell?_spot (hc 0 (by omega))
      subst hs
      have hc' : ∀ i, i < cap → w.cell? ⟨b, off + i, none⟩ = some (.int .u8 (zs.getD i 0)) := fun i hi => by rw [← add_plain]; exact hc i hi
      refine .inr ⟨b, off, rfl, block_lt_of_cell (hc' 0 (by omega)), fun j hj => ?_⟩
      simp only [List.length_take] at hj
      rw [hc' j (by omega)]
      simp only [List.getD_eq_getElem?_getD, List.getElem?_take]
      rw [if_pos (by omega)]

/-- The items that came in. -/
def items (len : Nat) (L : Nat → Nat) (Z : Nat → List Int) : List (List Int) := (List.range len).map fun r => (Z r).take (L r)
theorem items_len (len : Nat) (L : Nat → Nat) (Z : Nat → List Int) : (items len L Z).length = len := by simp [items]
theorem items_at {len : Nat} {L : Nat → Nat} {Z : Nat → List Int} {k : Nat} (h : k < len) : (items len L Z).getD k [] = (Z k).take (L k) := by simp [items, List.getD, h]

theorem walk (a0 : Option Addr) (len0 cap0 : Nat) (A : Nat → Option Addr) (L C : Nat → Nat) (Z : Nat → List Int) (w : World) (w0 : IsRows w a0 len0 cap0 A L C Z) :
    Calls Try.prog 4 #[.slice a0 len0 cap0] w fun e w' => e = .returned (.bool true) ∧ Below w.heap.size w w' := by
  rcases Nat.eq_zero_or_pos len0 with h0 | h0
  · subst h0; exact walk_none a0 cap0 w
  by_cases h : len0 ≤ 1048576
  · rcases w0 with ⟨_, r⟩ | ⟨x, rfl, hlc, hc⟩
    · omega
    obtain ⟨b, off, spot⟩ := x
    have hs : spot = none := by simpa [Addr.add] using World.cell?_spot (hc 0 (by omega)).1
    subst hs
    have e0 := items_len len0 L Z
    have ht : Tab w b off (items len0 L Z) := by
      refine ⟨?_, fun k hk => ?_⟩
      · have := (hc 0 (by omega)).1
        rw [add_plain] at this
        exact block_lt_of_cell this
      · rw [e0] at hk
        obtain ⟨c1, c2, c3, c4, c5⟩ := hc k (by omega)
        rw [items_at hk]
        have e1 : ((Z k).take (L k)).length = L k := by simp; omega
        refine ⟨A k, C k, ?_, txt_of c2 c3 c4 c5, fun hn => ?_⟩
        · rw [e1, ← add_plain]; exact c1
        · have := c4 hn
          exact ⟨List.eq_nil_of_length_eq_zero (by omega), this⟩
    have r := walk_main b off cap0 (items len0 L Z) w (decide_eq_false (by omega)) (by omega) (by omega) ht
    rw [e0] at r
    exact r
  · exact walk_long a0 len0 cap0 w (decide_eq_true (by omega))

/-! ### THE ROW's STEP -/
set_option maxRecDepth 100000 in
theorem lifted (os : Os) (started : os.Started) (H : Type) (enc : TypeId × Value → H) :
    ReturnsInHanded {} Try.checked os 4 .any (Rows.fnSplitValueListInvertsEscapedJoinSpec.pre6 enc Try.prog Try.f4 Rows.fnSplitValueListInvertsEscapedJoinRow.domain false) (Rows.fnSplitValueListInvertsEscapedJoinSpec.post enc Try.prog Try.f4 false true false false) := by
  refine returnsInHanded_of_change (C := Try.checked) own started (by kernel_rfl) Try.func4
    (ChangeSpec.witness6 (enc := enc) (C := Try.checked) false ⟨#[], #[.slice none 0 0], []⟩ 8 (by kernel_rfl) (by kernel_rfl) (by kernel_rfl) (by kernel_rfl)) ?_
  intro W base args ds gs before hval0 hW hcnd _
  have hval : ∀ (j : Nat) t v, Try.f4.params[j]? = some t → args[j]? = some v → Value.okWide Try.prog W .any base t v := hval0
  have hW' := hW
  obtain ⟨p, q, hA0, hV, rfl, hfz, hnd⟩ := hW
  have hA : DataW.TrodAll enc Try.prog W 0 (fun _ => true) true Try.f4.params.toList args.toList ds p := hA0
  rw [Try.params4] at hA hval
  obtain ⟨v0, vs0, d0, ds0, p0, q0, hargs, rfl, rfl, h0, r0⟩ := trodAll_cons hA
  obtain ⟨rfl, rfl, rfl⟩ := trodAll_nil r0
  obtain rfl : args = #[v0] := by cases args; simp_all
  obtain ⟨rfl, rfl⟩ := trodVars_none hV
  obtain ⟨a0, len0, cap0, rfl⟩ := okWide_slice Try.underlying25 (hval 0 25 v0 rfl rfl)
  have k0 := h0
  have lt0 : ∀ x ∈ p0, x.block < W.heap.size := by obtain ⟨m, hm⟩ := k0; exact DataW.trod_lt m _ _ _ hm
  obtain ⟨A, L, C, Z, w0⟩ : ∃ A L C Z, IsRows W a0 len0 cap0 A L C Z := by
    obtain ⟨fuel, hf⟩ := h0
    rcases Deep.open_int_rows Try.underlying25 Try.underlying22 Try.underlying5 (by kernel_rfl) (by kernel_rfl) hf with ⟨hcs, _⟩ | ⟨x, l, c, A, L, C, Z, hcs, _, hl, hm, _, hx⟩
    · simp [Value.cells] at hcs
      obtain ⟨rfl, rfl, rfl⟩ := hcs
      exact ⟨fun _ => none, fun _ => 0, fun _ => 0, fun _ => [], .inl ⟨rfl, rfl⟩⟩
    · simp [Value.cells] at hcs
      obtain ⟨rfl, rfl, rfl⟩ := hcs
      refine ⟨A, L, C, Z, .inr ⟨_, rfl, hl, fun r hr => ?_⟩⟩
      obtain ⟨y1, y2, _, y4, _, y6, y7⟩ := hx r hr
      exact ⟨y1, y2, y4, y6, fun a' ha => (y7 a' ha).2⟩
  clear hA0 hval0
  refine (walk a0 len0 cap0 A L C Z W w0).mono fun e W' ⟨he, bel⟩ => ?_
  subst he
  exact ⟨_, rfl, _, _, _, [], _, [], hW', trodAll_mk1 (shut_bool Try.underlying4 _), (trodAll_cons_mk (Below.trod laidOut (by kernel_rfl) (of_decide_eq_true (by kernel_rfl)) k0 bel lt0) trodAll_mk0), rfl, bel.frame _, fun h => by cases h⟩

theorem over : Rows.fnSplitValueListInvertsEscapedJoinRow.holds Try.pinned (OpenSpec.ofChange Rows.fnSplitValueListInvertsEscapedJoinSpec) :=
  OpenClaim.holds_of_wide 4 Try.f4 rfl rfl rfl rfl rfl rfl rfl ⟨rfl, rfl, rfl, rfl, rfl⟩ rfl rfl rfl rfl rfl (by kernel_rfl) Try.func4 (by kernel_rfl)
    (of_decide_eq_true (by kernel_rfl)) (by unfold Func.isWrapper; first | (rw [if_pos (by decide +kernel)]; kernel_rfl) | (rw [if_neg (by decide +kernel)]; exact ⟨rfl, rfl⟩))
    (fun os started H enc _ => lifted os started H enc)

/-- THE STATEMENT -/
theorem proved : Rows.FnSplitValueListInvertsEscapedJoinSaid := over
#print axioms proved
end Go.Proofs.Qxb6603816a.fnSplitValueListInvertsEscapedJoin
