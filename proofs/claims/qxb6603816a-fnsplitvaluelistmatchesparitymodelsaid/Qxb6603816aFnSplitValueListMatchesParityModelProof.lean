/-
  A PROOF OF 'Rows.FnSplitValueListMatchesParityModelSaid': the frame is the guide's (written by its program for this function; the walk ends in 'Below'); the walk is ours.
-/
import Derived.Test.Qxb6603816aRows
import Derived.Test.Qxb6603816aParity
import Derived.Test.Qxb6603816aBytes
import Derived.WalkKit
import Derived.ProofKit
import Derived.OpenShut
import Derived.ShutString
import Derived.ChangeOld
import Derived.Below
namespace Go.Proofs.Qxb6603816a.fnSplitValueListMatchesParityModel
open Go.ChangeShapes Go.WideShapes Go.ChangeAt Go.RowKit
open Go.ChangeMaps (open_string shut_string)
set_option linter.unusedVariables false

theorem own : ownKnob Try.prog.godebug = none := by kernel_rfl
theorem laidOut : laidOutB Try.prog = true := by kernel_rfl

/-- WHAT THE WALK IS TOLD OF A SLICE OF INTEGERS THAT CAME IN: it is nil; or it leads to a row of 'cap' cells, the numbers 'zs' (the first 'len' are its elements, the rest its spare room), each fitting its kind. -/
def IsRow (k : IntKind) (w : World) (a : Option Addr) (len cap : Nat) (zs : List Int) : Prop :=
  (a = none ∧ len = 0 ∧ cap = 0 ∧ zs = []) ∨
  ∃ x, a = some x ∧ len ≤ cap ∧ cap ≤ maxLen ∧ zs.length = cap ∧ (∀ i, i < zs.length → w.cell? (x.add i) = some (.int k (zs.getD i 0))) ∧ ∀ n ∈ zs, (Lit.int k n).wf = true

/-- A callee that draws, met behind draws. -/
theorem quiet_add {P : Program} {f : FuncId} {args : Array Value} {w : World} {a x : Nat} {v : Value} (h : Calls P f args (w.drewN (a + x)) fun e w' => e = .returned v ∧ ∃ m, w' = (w.drewN (a + x)).drewN m) :
    Calls P f args (w.drewN (a + x)) fun e w'' => e = .returned v ∧ ∃ n, w'' = w.drewN (a + n) :=
  h.mono fun _ _ ⟨he, m, hm⟩ => ⟨he, x + m, by rw [hm, World.drewN_drewN, Nat.add_assoc]⟩

/-- A row of bytes that came in is a text. -/
theorem txt_of_row {w : World} {a : Option Addr} {len cap : Nat} {zs : List Int} (h : IsRow .u8 w a len cap zs) : Txt w a (zs.take len) := by
  rcases Nat.eq_zero_or_pos len with h0 | h0
  · subst h0; exact .inl (by simp)
  · rcases h with ⟨_, rfl, _⟩ | ⟨x, rfl, hlc, _, hz, hc, _⟩
    · exact .inl (by simp)
    · obtain ⟨b, off, spot⟩ := x
      have hs : spot = none := by simpa [Addr.add] using World.cell?_spot (hc 0 (by omega))
      subst hs
      have hc' : ∀ i, i < cap → w.cell? ⟨b, off + i, none⟩ = some (.int .u8 (zs.getD i 0)) := fun i hi => by rw [← add_plain]; exact hc i (by omega)
      refine .inr ⟨b, off, rfl, block_lt_of_cell (hc' 0 (by omega)), fun j hj => ?_⟩
      simp only [List.length_take] at hj
      rw [hc' j (by omega)]
      simp only [List.getD_eq_getElem?_getD, List.getElem?_take]
      rw [if_pos (by omega)]

theorem zz7_no (a : Option Addr) (len cap : Nat) (w : World) (h : decide ((1048576 : Int) < (len : Int)) = true) :
    Calls Try.prog 7 #[.slice a len cap] w fun e w' => e = .returned (.bool false) ∧ w' = w := by
  go_enter Try.func7, Try.ntmps7
  go_wp2
  go_ret
  exact ⟨rfl, rfl⟩
theorem zz7_yes (a : Option Addr) (len cap : Nat) (w : World) (h : decide ((1048576 : Int) < (len : Int)) = false) (hl : len / 1048577 = 0) :
    Calls Try.prog 7 #[.slice a len cap] w fun e w' => e = .returned (.bool true) ∧ w' = w := by
  go_enter Try.func7, Try.ntmps7
  go_wp2
  go_ret
  exact ⟨rfl, rfl⟩

set_option maxRecDepth 100000 in
theorem walk_big (a : Option Addr) (len cap : Nat) (w : World) (h : decide ((1048576 : Int) < (len : Int)) = true) :
    Calls Try.prog 3 #[.slice a len cap] w fun e w' => e = .returned (.bool true) ∧ Below w.heap.size w w' := by
  go_enter Try.func3, Try.ntmps3
  go_wp2_with (go_at_call 7; refine (zz7_no _ _ _ _ h).mono ?_; rintro e w' ⟨rfl, rfl⟩)
  go_ret
  exact ⟨rfl, Below.refl _ _⟩

set_option maxRecDepth 100000 in
set_option maxHeartbeats 1600000 in
theorem walk_main (a : Option Addr) (cap : Nat) (t : List Int) (w : World) (h : decide ((1048576 : Int) < (t.length : Int)) = false) (hl : t.length / 1048577 = 0) (hnil : a = none → t = [] ∧ cap = 0) (ht : Txt w a t) :
    Calls Try.prog 3 #[.slice a t.length cap] w fun e w' => e = .returned (.bool true) ∧ Below w.heap.size w w' := by
  have q := q22
  have HN := hide hnil
  have HT := hide ht
  clear hnil ht
  go_enter Try.func3, Try.ntmps3
  go_wp2_with (go_at_call 7; refine (zz7_yes _ _ _ _ h hl).mono ?_; rintro e w' ⟨rfl, rfl⟩)
  refine (clone_any a cap t _ hl HN.out HT.out).mono ?_
  rintro e w1 ⟨v1, rfl, hB1, hO1, _⟩
  obtain ⟨a1, c1, rfl, hc1, hT1, _⟩ := txt_of_owns hO1
  have HB1 := hide hB1
  have HT1 := hide hT1
  clear hO1 HT HN hT1 hB1
  go_wp2_with fail
  refine (zzSplit_any a1 c1 t _ (by omega) HT1.out).mono ?_
  rintro e w2 ⟨v2, rfl, hB2, hI2⟩
  have hs1 := HB1.out.size
  have hs2 := hB2.size
  have HB2 := hide hB2
  have HI2 := hide hI2
  have HT2 := hide (HT1.out.kept hB2)
  clear hB2 hI2 HT1
  go_wp2_with fail
  refine (parity_any a1 c1 t _ hl hc1 HT2.out).mono ?_
  rintro e w3 ⟨v3, rfl, hB3, hI3⟩
  rw [Pl.law1] at hI3
  have hs3 := hB3.size
  have hp : 0 < (Pl.spl t [] []).length := Pl.spl_len t.length t (Nat.le_refl _) [] []
  have hI2 := HI2.out.kept hB3
  obtain ⟨its, hits⟩ : ∃ its, its = Pl.spl t [] [] := ⟨_, rfl⟩
  rw [← hits] at hp hI2 hI3
  have hL := hI3.len
  obtain ⟨g1, p1, rfl, r1, _, _, f1⟩ := hI2.form hp
  obtain ⟨g2, p2, rfl, r2, _, _, f2⟩ := hI3.form hp
  have HB := hide ((HB1.out.trans (HB2.out.mono hs1)).trans (hB3.mono (by omega)))
  have F1 := hide f1
  have F2 := hide f2
  have d0 : ((its.length : Int) != (its.length : Int)) = false := by simp
  clear hits hI2 hI3 HI2 HB1 HB2 hB3 HT2 f1 f2
  go_wp2
  go_loopw [5] (fun i wr => ∃ k n : Nat, k ≤ its.length ∧ i = .int .i64 k ∧ wr = w3.drewN n) (fun i _ => its.length - (intOf i).toNat)
  case atStart => exact ⟨0, 0, Nat.zero_le _, rfl, rfl⟩
  case round =>
    obtain ⟨k, n, hk, rfl, rfl⟩ := hrel
    by_cases hlt : k < its.length
    · obtain ⟨e1, c1, o1⟩ := F1.out k hlt
      obtain ⟨e2, c2, o2⟩ := F2.out k hlt
      obtain ⟨l, hll⟩ : ∃ l, l = its.getD k [] := ⟨_, rfl⟩
      rw [← hll] at o1 o2
      clear hll
      have q1 : (k : Int) < (its.length : Int) := by omega
      by_cases hnl : l = []
      · have e1n := o1.2 hnl
        have e2n := o2.2 hnl
        subst e1n e2n
        clear o1 o2 hnl
        go_wp2
        go_quiet (fail)
        go_wp2
        go_quiet ((go_at_call 11; exact quiet_add (same_none none none 0 0 _)))
        go_wp2
        go_roundw
        case rel => exact ⟨k + 1, _, by omega, by go_num, rfl⟩
        case measure => simp [intOf]; omega
      · obtain ⟨a3, m3, he1, _, t1, _⟩ := txt_of_owns o1.1
        obtain ⟨a4, m4, he2, _, t2, _⟩ := txt_of_owns o2.1
        obtain ⟨h1, m1, rfl, _, _, _, _⟩ := o1.form hnl
        obtain ⟨h2, m2, rfl, _, _, _, _⟩ := o2.form hnl
        simp only [Value.slice.injEq, true_and] at he1 he2
        obtain ⟨rfl, rfl⟩ := he1
        obtain ⟨rfl, rfl⟩ := he2
        have T1 := hide t1
        have T2 := hide t2
        have HLL := hide (owns_len o1.1)
        clear o1 o2 hnl t1 t2
        go_wp2
        go_quiet (fail)
        go_wp2
        go_quiet ((go_at_call 11; exact quiet_add (same_any _ _ _ _ l _ HLL.out (by exact T1.out) (by exact T2.out))))
        go_wp2
        go_roundw
        case rel => exact ⟨k + 1, _, by omega, by go_num, rfl⟩
        case measure => simp [intOf]; omega
    · go_wp2
      go_ret
      exact ⟨rfl, HB.out.trans ⟨rfl, rfl, rfl, Nat.le_refl _, fun _ _ => rfl⟩⟩

theorem walk (a0 : Option Addr) (len0 cap0 : Nat) (z0 : List Int) (w : World) (w0 : IsRow .u8 w a0 len0 cap0 z0) :
    Calls Try.prog 3 #[.slice a0 len0 cap0] w fun e w' => e = .returned (.bool true) ∧ Below w.heap.size w w' := by
  by_cases h : len0 ≤ 1048576
  · have ht : (z0.take len0).length = len0 := by
      rcases w0 with ⟨_, rfl, _, rfl⟩ | ⟨x, _, h1, _, h2, _⟩
      · rfl
      · simp; omega
    have r := walk_main a0 cap0 (z0.take len0) w (decide_eq_false (by omega)) (by omega) (fun hn => by
      rcases w0 with ⟨_, rfl, rfl, rfl⟩ | ⟨x, hx, _⟩
      · exact ⟨rfl, rfl⟩
      · rw [hn] at hx; cases hx) (txt_of_row w0)
    rw [ht] at r
    exact r
  · exact walk_big a0 len0 cap0 w (decide_eq_true (by omega))

/-! ### THE ROW's STEP: WRITTEN OUT: LEAVE IT -/
set_option maxRecDepth 100000 in
theorem lifted (os : Os) (started : os.Started) (H : Type) (enc : TypeId × Value → H) :
    ReturnsInHanded {} Try.checked os 3 .any (Rows.fnSplitValueListMatchesParityModelSpec.pre6 enc Try.prog Try.f3 Rows.fnSplitValueListMatchesParityModelRow.domain false) (Rows.fnSplitValueListMatchesParityModelSpec.post enc Try.prog Try.f3 false true false false) := by
  refine returnsInHanded_of_change (C := Try.checked) own started (by kernel_rfl) Try.func3
    (ChangeSpec.witness6 (enc := enc) (C := Try.checked) false ⟨#[], #[.slice none 0 0], []⟩ 8 (by kernel_rfl) (by kernel_rfl) (by kernel_rfl) (by kernel_rfl)) ?_
  intro W base args ds gs before hval0 hW hcnd _
  have hval : ∀ (j : Nat) t v, Try.f3.params[j]? = some t → args[j]? = some v → Value.okWide Try.prog W .any base t v := hval0
  have hW' := hW
  obtain ⟨p, q, hA0, hV, rfl, hfz, hnd⟩ := hW
  have hA : DataW.TrodAll enc Try.prog W 0 (fun _ => true) true Try.f3.params.toList args.toList ds p := hA0
  rw [Try.params3] at hA hval
  obtain ⟨v0, vs0, d0, ds0, p0, q0, hargs, rfl, rfl, h0, r0⟩ := trodAll_cons hA
  obtain ⟨rfl, rfl, rfl⟩ := trodAll_nil r0
  obtain rfl : args = #[v0] := by cases args; simp_all
  obtain ⟨rfl, rfl⟩ := trodVars_none hV
  obtain ⟨a0, len0, cap0, rfl⟩ := okWide_slice Try.underlying22 (hval 0 22 v0 rfl rfl)
  have k0 := h0
  have lt0 : ∀ x ∈ p0, x.block < W.heap.size := by obtain ⟨m, hm⟩ := k0; exact DataW.trod_lt m _ _ _ hm
  obtain ⟨z0, w0⟩ : ∃ zs, IsRow .u8 W a0 len0 cap0 zs := by
    obtain ⟨fuel, hf⟩ := h0
    rcases open_ints Try.underlying22 Try.underlying5 (by kernel_rfl) hf with ⟨hcs, _⟩ | ⟨x, l, c, zs, hcs, _, hl, hm, hz, _, hcell, hwz⟩
    · simp [Value.cells] at hcs
      obtain ⟨rfl, rfl, rfl⟩ := hcs
      exact ⟨[], .inl ⟨rfl, rfl, rfl, rfl⟩⟩
    · simp [Value.cells] at hcs
      obtain ⟨rfl, rfl, rfl⟩ := hcs
      exact ⟨zs, .inr ⟨_, rfl, hl, hm, by simpa using hz, hcell, hwz⟩⟩
  clear hA0 hval0
  refine (walk a0 len0 cap0 z0 W w0).mono fun e W' ⟨he, bel⟩ => ?_
  subst he
  exact ⟨_, rfl, _, _, _, [], _, [], hW', trodAll_mk1 (shut_bool Try.underlying4 _), (trodAll_cons_mk (Below.trod laidOut (by kernel_rfl) (of_decide_eq_true (by kernel_rfl)) k0 bel lt0) trodAll_mk0), rfl, bel.frame _, fun h => by cases h⟩

theorem over : Rows.fnSplitValueListMatchesParityModelRow.holds Try.pinned (OpenSpec.ofChange Rows.fnSplitValueListMatchesParityModelSpec) :=
  OpenClaim.holds_of_wide 3 Try.f3 rfl rfl rfl rfl rfl rfl rfl ⟨rfl, rfl, rfl, rfl, rfl⟩ rfl rfl rfl rfl rfl (by kernel_rfl) Try.func3 (by kernel_rfl)
    (of_decide_eq_true (by kernel_rfl)) (by unfold Func.isWrapper; first | (rw [if_pos (by decide +kernel)]; kernel_rfl) | (rw [if_neg (by decide +kernel)]; exact ⟨rfl, rfl⟩))
    (fun os started H enc _ => lifted os started H enc)

/-- ████ THE STATEMENT ████ -/
theorem proved : Rows.FnSplitValueListMatchesParityModelSaid := over
#print axioms proved
end Go.Proofs.Qxb6603816a.fnSplitValueListMatchesParityModel
