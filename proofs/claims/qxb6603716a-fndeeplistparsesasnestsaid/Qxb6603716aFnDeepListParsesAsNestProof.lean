/-
  A PROOF OF 'Rows.FnDeepListParsesAsNestSaid': the frame is the guide's (written by its program for this function; the walk ends in 'Below'); the walk is ours.
-/
import Derived.Test.Qxb6603716aRows
import Derived.Test.Qxb6603716aDeep
import Derived.Test.Qxb6603716aParse
import Derived.WalkKit
import Derived.ProofKit
import Derived.OpenShut
import Derived.ShutString
import Derived.ChangeOld
import Derived.Below
namespace Go.Proofs.Qxb6603716a.fnDeepListParsesAsNest
open Go.ChangeShapes Go.WideShapes Go.ChangeAt Go.RowKit
open Go.ChangeMaps (open_string shut_string)
set_option linter.unusedVariables false      -- a walk need not use every 'w<i>' (that an integer argument fits its kind)

theorem own : ownKnob Try.prog.godebug = none := by kernel_rfl

/-- The bytes of the inner nest lie inside the outer one. -/
theorem inner (m : Nat) : ∀ d, m ≤ d → ∀ j, Pl.D d (Pl.sz d - Pl.sz m + j) = Pl.D m j := by
  intro d
  induction d with
  | zero => intro h j; rw [show m = 0 by omega]; rfl
  | succ d ih =>
    intro h j
    rcases Nat.eq_or_lt_of_le h with h | h
    · subst h; rw [Nat.sub_self, Nat.zero_add]
    · have := Pl.sz_mono (show m ≤ d by omega)
      rw [Pl.sz_succ, show Pl.sz d + Pl.hl (Pl.sz d) - Pl.sz m + j = Pl.hl (Pl.sz d) + (Pl.sz d - Pl.sz m + j) by omega, Pl.D_tail d]
      exact ih (by omega) j

theorem ret_bool {a b : Bool} (h : a = b) : Ending.returned (.bool a) = .returned (.bool b) := by rw [h]

set_option maxRecDepth 100000 in
theorem walk_in (d : Nat) (h1 : 1 ≤ d) (h2 : d ≤ 65536) (w : World) :
    Calls Try.prog 7 #[.int .i64 d] w fun e w' => e = .returned (.bool true) ∧ Below w.heap.size w w' := by
  have h3 : d / 65537 = 0 := by omega
  have h4 : ((d : Int) < 1) = False := by simp; omega
  have b1 := Pl.sz_le d
  go_enter Try.func7, Try.ntmps7
  go_wp2_with (go_at_call 16; refine (deep_any d h1 h3 _).mono ?_; rintro e w1 ⟨rfl, hbel, hsz, cur, hrow, hdeep⟩; clear hsz)
  have H2 : Hid (d ≤ 65536) := h2
  have b2 : Pl.sz d / 1048576 = 0 := by omega
  clear h2 b1 h4
  have HB : Hid (Below w.heap.size w w1) := hbel
  have HR : Hid (w1.heap[w.heap.size]? = some (.cells cur 5 (0, 0))) := hrow
  clear hbel hrow
  go_loop [4, 5] (fun p l => ∃ m P : Nat, m < d ∧ P + Pl.sz (m + 1) ≤ Pl.sz d ∧ Pl.sz d ≤ P + Pl.sz (m + 1) ∧ p = .int .i64 P ∧ l = .int .i64 ((d : Int) - (m + 1))) (fun p _ => Pl.sz d - (intOf p).toNat)
  case atStart => exact ⟨d - 1, 0, by omega, by rw [show d - 1 + 1 = d by omega]; omega, by rw [show d - 1 + 1 = d by omega]; omega, rfl, by go_num⟩
  case round =>
    obtain ⟨m, P, hm, hP1, hP2, rfl, rfl⟩ := hrel
    have c1 := Pl.sz_succ m
    have c2 := Pl.hl_pos (Pl.sz m)
    have c3 := Pl.hl_le (Pl.sz m)
    have hc : ∀ j, j < Pl.hl (Pl.sz m) → w1.cell? ⟨w.heap.size, 0 + (P + j), none⟩ = some (.int .u8 (Pl.hb (Pl.sz m) j)) := by
      intro j hj
      rw [Nat.zero_add, cell_of_row w1 _ _ cur 5 (0, 0) HR.out, hdeep.2 _ (by omega), show P + j = Pl.sz d - Pl.sz (m + 1) + j by omega, inner (m + 1) d (by omega) j, Pl.D_head m j hj]
    have HC : Hid (∀ j, j < Pl.hl (Pl.sz m) → w1.cell? ⟨w.heap.size, 0 + (P + j), none⟩ = some (.int .u8 (Pl.hb (Pl.sz m) j))) := hc
    have c4 : P + Pl.sz m + Pl.hl (Pl.sz m) ≤ Pl.sz d := by omega
    have c5 : Pl.sz d ≤ P + Pl.sz m + Pl.hl (Pl.sz m) := by omega
    clear hc c1 hP1 hP2
    by_cases h0 : m = 0
    · have c6 : Pl.sz m ≤ 0 := by rw [h0]; exact Nat.le_refl _
      have c7 : m ≤ 0 := by omega
      clear h0
      go_wp2_with (go_at_call 13; refine (parse_any w.heap.size 0 (Pl.sz d) _ P (Pl.sz m) _ (by omega) HC.out (by omega) (by omega)).mono ?_; rintro e w' ⟨rfl, rfl⟩)
      go_ret
      exact ⟨ret_bool (beq_iff_eq.2 (by omega)), HB.out⟩
    · have c6 := Pl.sz_ge m
      go_wp2_with (go_at_call 13; refine (parse_any w.heap.size 0 (Pl.sz d) _ P (Pl.sz m) _ (by omega) HC.out (by omega) (by omega)).mono ?_; rintro e w' ⟨rfl, rfl⟩)
      go_round
      case rel =>
        obtain ⟨n, rfl⟩ : ∃ n, m = n + 1 := ⟨m - 1, by omega⟩
        exact ⟨n, P + Pl.hl (Pl.sz (n + 1)), by omega, by omega, by omega, by go_num, by go_num⟩
      case measure => simp [intOf]; omega

theorem walk (a0 : Int) (w0 : (Lit.int .i64 a0).wf = true) (w : World) :
    Calls Try.prog 7 #[.int .i64 a0] w fun e w' => e = .returned (.bool true) ∧ Below w.heap.size w w' := by
  by_cases h1 : a0 < 1
  · go_enter Try.func7, Try.ntmps7
    go_wp2
    go_ret
    exact ⟨rfl, Below.refl _ _⟩
  by_cases h2 : 65536 < a0
  · go_enter Try.func7, Try.ntmps7
    go_wp2
    go_ret
    exact ⟨rfl, Below.refl _ _⟩
  · obtain ⟨d, rfl⟩ := Int.eq_ofNat_of_zero_le (show 0 ≤ a0 by omega)
    exact walk_in d (by omega) (by omega) w

/-! ### THE ROW's STEP: WRITTEN OUT: LEAVE IT -/
set_option maxRecDepth 100000 in
theorem lifted (os : Os) (started : os.Started) (H : Type) (enc : TypeId × Value → H) :
    ReturnsInHanded {} Try.checked os 7 .any (Rows.fnDeepListParsesAsNestSpec.pre6 enc Try.prog Try.f7 Rows.fnDeepListParsesAsNestRow.domain false) (Rows.fnDeepListParsesAsNestSpec.post enc Try.prog Try.f7 false true false false) := by
  refine returnsInHanded_of_change (C := Try.checked) own started (by kernel_rfl) Try.func7
    (ChangeSpec.witness6 (enc := enc) (C := Try.checked) false ⟨#[], #[.int .i64 0], []⟩ 8 (by kernel_rfl) (by kernel_rfl) (by kernel_rfl) (by kernel_rfl)) ?_
  intro W base args ds gs before hval0 hW hcnd _
  have hval : ∀ (j : Nat) t v, Try.f7.params[j]? = some t → args[j]? = some v → Value.okWide Try.prog W .any base t v := hval0
  have hW' := hW
  obtain ⟨p, q, hA0, hV, rfl, hfz, hnd⟩ := hW
  have hA : DataW.TrodAll enc Try.prog W 0 (fun _ => true) true Try.f7.params.toList args.toList ds p := hA0
  rw [Try.params7] at hA hval
  obtain ⟨v0, vs0, d0, ds0, p0, q0, hargs, rfl, rfl, h0, r0⟩ := trodAll_cons hA
  obtain ⟨rfl, rfl, rfl⟩ := trodAll_nil r0
  obtain rfl : args = #[v0] := by cases args; simp_all
  obtain ⟨rfl, rfl⟩ := trodVars_none hV
  obtain ⟨a0, rfl, rfl, rfl, w0⟩ := open_int Try.underlying3 (hval 0 3 v0 rfl rfl) h0
  clear hA0 hval0
  simp only [List.append_nil] at hW'
  refine (walk a0 w0 W).mono fun e W' ⟨he, hg⟩ => ?_
  subst he
  exact ⟨_, rfl, _, _, _, [], _, [], hW', trodAll_mk1 (shut_bool Try.underlying4 _), (trodAll_cons_mk (shut_int Try.underlying3 w0) trodAll_mk0), rfl, hg.frame _, fun h => by cases h⟩

theorem over : Rows.fnDeepListParsesAsNestRow.holds Try.pinned (OpenSpec.ofChange Rows.fnDeepListParsesAsNestSpec) :=
  OpenClaim.holds_of_wide 7 Try.f7 rfl rfl rfl rfl rfl rfl rfl ⟨rfl, rfl, rfl, rfl, rfl⟩ rfl rfl rfl rfl rfl (by kernel_rfl) Try.func7 (by kernel_rfl)
    (of_decide_eq_true (by kernel_rfl)) (by unfold Func.isWrapper; first | (rw [if_pos (by decide +kernel)]; kernel_rfl) | (rw [if_neg (by decide +kernel)]; exact ⟨rfl, rfl⟩))
    (fun os started H enc _ => lifted os started H enc)

/-- ████ THE STATEMENT ████ -/
theorem proved : Rows.FnDeepListParsesAsNestSaid :=
  over
#print axioms proved
end Go.Proofs.Qxb6603716a.fnDeepListParsesAsNest
