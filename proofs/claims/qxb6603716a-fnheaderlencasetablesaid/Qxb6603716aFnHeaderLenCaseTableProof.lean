/-
  A PROOF OF 'Rows.FnHeaderLenCaseTableSaid': the frame is the guide's (written by its program for this function); the walk is ours.
-/
import Derived.Test.Qxb6603716aRows
import Derived.Test.Qxb6603716aLen
import Derived.WalkKit
import Derived.ProofKit
import Derived.OpenShut
import Derived.ShutString
namespace Go.Proofs.Qxb6603716a.fnHeaderLenCaseTable
open Go.ChangeShapes Go.WideShapes Go.ChangeAt Go.RowKit
open Go.ChangeMaps (open_string shut_string)
set_option linter.unusedVariables false      -- a walk need not use every 'w<i>' (that an integer argument fits its kind)

theorem own : ownKnob Try.prog.godebug = none := by kernel_rfl

/-! ### STEP 1: THE WALK: the Go text returns true. 'Grown w w'': the world has at most new blocks (Derived/RowKit3.lean). Part the cases AHEAD of 'go_enter' where a test parts the walk; take each callee by a contract of your own. -/
/-- The table, below 56. -/
theorem table_small (n : Int) (h : n < 56) (w : World) :
    Calls Try.prog 9 #[.int .i64 n] w fun e w' => e = .returned (.int .i64 1) ∧ w' = w := by
  go_enter Try.func9, Try.ntmps9
  go_wp2
  go_ret
  exact ⟨rfl, rfl⟩

theorem table1 (n : Int) (p : 56 ≤ n) (q : n < 256) (w : World) : Calls Try.prog 9 #[.int .i64 n] w fun e w' => e = .returned (.int .i64 2) ∧ w' = w := by
  go_enter Try.func9, Try.ntmps9
  go_wp2
  go_ret
  exact ⟨rfl, rfl⟩
theorem table2 (n : Int) (p : 256 ≤ n) (q : n < 65536) (w : World) : Calls Try.prog 9 #[.int .i64 n] w fun e w' => e = .returned (.int .i64 3) ∧ w' = w := by
  go_enter Try.func9, Try.ntmps9
  go_wp2
  go_ret
  exact ⟨rfl, rfl⟩
theorem table3 (n : Int) (p : 65536 ≤ n) (q : n < 16777216) (w : World) : Calls Try.prog 9 #[.int .i64 n] w fun e w' => e = .returned (.int .i64 4) ∧ w' = w := by
  go_enter Try.func9, Try.ntmps9
  go_wp2
  go_ret
  exact ⟨rfl, rfl⟩
theorem table4 (n : Int) (p : 16777216 ≤ n) (q : n < 4294967296) (w : World) : Calls Try.prog 9 #[.int .i64 n] w fun e w' => e = .returned (.int .i64 5) ∧ w' = w := by
  go_enter Try.func9, Try.ntmps9
  go_wp2
  go_ret
  exact ⟨rfl, rfl⟩
theorem table5 (n : Int) (p : 4294967296 ≤ n) (q : n < 1099511627776) (w : World) : Calls Try.prog 9 #[.int .i64 n] w fun e w' => e = .returned (.int .i64 6) ∧ w' = w := by
  go_enter Try.func9, Try.ntmps9
  go_wp2
  go_ret
  exact ⟨rfl, rfl⟩
theorem table6 (n : Int) (p : 1099511627776 ≤ n) (q : n < 281474976710656) (w : World) : Calls Try.prog 9 #[.int .i64 n] w fun e w' => e = .returned (.int .i64 7) ∧ w' = w := by
  go_enter Try.func9, Try.ntmps9
  go_wp2
  go_ret
  exact ⟨rfl, rfl⟩
theorem table7 (n : Int) (p : 281474976710656 ≤ n) (q : n < 72057594037927936) (w : World) : Calls Try.prog 9 #[.int .i64 n] w fun e w' => e = .returned (.int .i64 8) ∧ w' = w := by
  go_enter Try.func9, Try.ntmps9
  go_wp2
  go_ret
  exact ⟨rfl, rfl⟩
theorem table8 (n : Int) (p : 72057594037927936 ≤ n) (w : World) : Calls Try.prog 9 #[.int .i64 n] w fun e w' => e = .returned (.int .i64 9) ∧ w' = w := by
  go_enter Try.func9, Try.ntmps9
  go_wp2
  go_ret
  exact ⟨rfl, rfl⟩

/-- The table, from 56 on. -/
theorem table_big (n : Nat) (h : 56 ≤ n) (w : World) :
    Calls Try.prog 9 #[.int .i64 n] w fun e w' => e = .returned (.int .i64 (Pl.hl n)) ∧ w' = w := by
  rw [Pl.hl_big n h]
  rcases (show n < 256 ∨ (256 ≤ n ∧ n < 65536) ∨ (65536 ≤ n ∧ n < 16777216) ∨ (16777216 ≤ n ∧ n < 4294967296) ∨ (4294967296 ≤ n ∧ n < 1099511627776) ∨ (1099511627776 ≤ n ∧ n < 281474976710656) ∨ (281474976710656 ≤ n ∧ n < 72057594037927936) ∨ 72057594037927936 ≤ n from by omega) with q | ⟨p, q⟩ | ⟨p, q⟩ | ⟨p, q⟩ | ⟨p, q⟩ | ⟨p, q⟩ | ⟨p, q⟩ | p
  · rw [Pl.nb1 n (by omega) q]; exact table1 n (by omega) (by omega) w
  · rw [Pl.nb2 n p q]; exact table2 n (by omega) (by omega) w
  · rw [Pl.nb3 n p q]; exact table3 n (by omega) (by omega) w
  · rw [Pl.nb4 n p q]; exact table4 n (by omega) (by omega) w
  · rw [Pl.nb5 n p q]; exact table5 n (by omega) (by omega) w
  · rw [Pl.nb6 n p q]; exact table6 n (by omega) (by omega) w
  · rw [Pl.nb7 n p q]; exact table7 n (by omega) (by omega) w
  · rw [Pl.nb8 n p]; exact table8 n (by omega) w

theorem walk (a0 : Int) (w0 : (Lit.int .i64 a0).wf = true) (w : World) :
    Calls Try.prog 3 #[.int .i64 a0] w fun e w' => e = .returned (.bool true) ∧ Grown w w' := by
  obtain ⟨b1, b2⟩ := bounds_i64 w0
  clear w0
  by_cases h : a0 < 56
  · go_enter Try.func3, Try.ntmps3
    go_wp2_with (first | (go_at_call 8; refine (zzLen_small _ h _).mono ?_; rintro e w' ⟨rfl, rfl⟩) | (go_at_call 9; refine (table_small _ h _).mono ?_; rintro e w' ⟨rfl, rfl⟩))
    go_ret
    exact ⟨rfl, Grown.refl _⟩
  · obtain ⟨n, rfl⟩ := Int.eq_ofNat_of_zero_le (show 0 ≤ a0 by omega)
    go_enter Try.func3, Try.ntmps3
    go_wp2_with (first | (go_at_call 8; refine (zzLen_any n (by omega) _).mono ?_; rintro e w' ⟨rfl, rfl⟩) | (go_at_call 9; refine (table_big n (by omega) _).mono ?_; rintro e w' ⟨rfl, rfl⟩))
    go_ret
    exact ⟨rfl, Grown.refl _⟩

/-! ### THE ROW's STEP: WRITTEN OUT: LEAVE IT -/
set_option maxRecDepth 100000 in
theorem lifted (os : Os) (started : os.Started) (H : Type) (enc : TypeId × Value → H) :
    ReturnsInHanded {} Try.checked os 3 .any (Rows.fnHeaderLenCaseTableSpec.pre6 enc Try.prog Try.f3 Rows.fnHeaderLenCaseTableRow.domain false) (Rows.fnHeaderLenCaseTableSpec.post enc Try.prog Try.f3 false true false false) := by
  refine returnsInHanded_of_change (C := Try.checked) own started (by kernel_rfl) Try.func3
    (ChangeSpec.witness6 (enc := enc) (C := Try.checked) false ⟨#[], #[.int .i64 0], []⟩ 8 (by kernel_rfl) (by kernel_rfl) (by kernel_rfl) (by kernel_rfl)) ?_
  intro W base args ds gs before hval0 hW hcnd _
  have hval : ∀ (j : Nat) t v, Try.f3.params[j]? = some t → args[j]? = some v → Value.okWide Try.prog W .any base t v := hval0
  have hW' := hW
  obtain ⟨p, q, hA0, hV, rfl, hfz, hnd⟩ := hW
  have hA : DataW.TrodAll enc Try.prog W 0 (fun _ => true) true Try.f3.params.toList args.toList ds p := hA0
  rw [Try.params3] at hA hval
  obtain ⟨v0, vs0, d0, ds0, p0, q0, hargs, rfl, rfl, h0, r0⟩ := trodAll_cons hA
  obtain ⟨rfl, rfl, rfl⟩ := trodAll_nil r0
  obtain rfl : args = #[v0] := by cases args; simp_all
  obtain ⟨rfl, rfl⟩ := trodVars_none hV
  obtain ⟨a0, rfl, rfl, rfl, w0⟩ := open_int Try.underlying3 (hval 0 3 v0 rfl rfl) h0
  clear hA0 hval0
  simp only [List.append_nil] at hW'
  refine (walk a0 w0 W).mono fun e W' ⟨he, hg⟩ => ?_
  subst he
  exact ⟨_, rfl, post_of_same (pa := []) (pv := []) hW' (fun _ _ _ => (trodAll_cons_mk (shut_bool Try.underlying4 _) trodAll_mk0)) (fun sp _ => (trodAll_cons_mk (shut_int Try.underlying3 w0) trodAll_mk0)) (fun _ _ => rfl) rfl
    (hg.frame _) hg.2.1 (ok_one (by kernel_rfl) rfl (okWide_bool_mk Try.underlying4 _))⟩

theorem over : Rows.fnHeaderLenCaseTableRow.holds Try.pinned (OpenSpec.ofChange Rows.fnHeaderLenCaseTableSpec) :=
  OpenClaim.holds_of_wide 3 Try.f3 rfl rfl rfl rfl rfl rfl rfl ⟨rfl, rfl, rfl, rfl, rfl⟩ rfl rfl rfl rfl rfl (by kernel_rfl) Try.func3 (by kernel_rfl)
    (of_decide_eq_true (by kernel_rfl)) (by unfold Func.isWrapper; first | (rw [if_pos (by decide +kernel)]; kernel_rfl) | (rw [if_neg (by decide +kernel)]; exact ⟨rfl, rfl⟩))
    (fun os started H enc _ => lifted os started H enc)

/-- ████ THE STATEMENT ████ -/
theorem proved : Rows.FnHeaderLenCaseTableSaid :=
  over
#print axioms proved
end Go.Proofs.Qxb6603716a.fnHeaderLenCaseTable
