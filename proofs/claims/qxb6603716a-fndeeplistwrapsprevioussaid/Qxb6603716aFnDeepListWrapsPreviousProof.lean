/-
  A PROOF OF 'Rows.FnDeepListWrapsPreviousSaid': the frame is the guide's (written by its program for this function; the walk ends in 'Below'); the walk is ours.
-/
import Derived.Test.Qxb6603716aRows
import Derived.Test.Qxb6603716aDeep
import Derived.Test.Qxb6603716aCmp
import Derived.WalkKit
import Derived.ProofKit
import Derived.OpenShut
import Derived.ShutString
import Derived.ChangeOld
import Derived.Below
namespace Go.Proofs.Qxb6603716a.fnDeepListWrapsPrevious
open Go.ChangeShapes Go.WideShapes Go.ChangeAt Go.RowKit
open Go.ChangeMaps (open_string shut_string)
set_option linter.unusedVariables false      -- a walk need not use every 'w<i>' (that an integer argument fits its kind)

theorem own : ownKnob Try.prog.godebug = none := by kernel_rfl

theorem cmp_zero {x y : Nat → Nat} {la lb : Nat} {c : Int} (h : Cmp x la y lb c) (hl : la = lb) (he : ∀ j, j < la → x j = y j) : c = 0 := by
  subst hl
  rcases h with ⟨_, ⟨i, hi, _, _, hlt⟩ | ⟨hlt, _⟩⟩ | ⟨_, ⟨i, hi, _, _, hlt⟩ | ⟨hlt, _⟩⟩ | ⟨h, _⟩
  · have := he i hi; omega
  · omega
  · have := he i hi; omega
  · omega
  · exact h

theorem hide {p : Prop} (h : p) : Hid p := h
theorem ret_bool {a b : Bool} (h : a = b) : Ending.returned (.bool a) = .returned (.bool b) := by rw [h]

set_option maxRecDepth 100000 in
set_option maxHeartbeats 800000 in
theorem walk_in (d : Nat) (h1 : 1 ≤ d) (h2 : d ≤ 65535) (w : World) :
    Calls Try.prog 6 #[.int .i64 d] w fun e w' => e = .returned (.bool true) ∧ Below w.heap.size w w' := by
  have h3 : d / 65537 = 0 := by omega
  have h3' : (d + 1) / 65537 = 0 := by omega
  have h4 : ((d : Int) < 1) = False := by simp; omega
  have b1 := Pl.sz_le d
  have b2 := Pl.hl_le (Pl.sz d)
  have b3 := Pl.hl_pos (Pl.sz d)
  have b4 : Pl.sz d / 1048576 = 0 := by omega
  have b5 := Pl.sz_succ d
  have b6 : Pl.sz (d + 1) ≤ Pl.sz d + Pl.hl (Pl.sz d) := by omega
  have b7 : Pl.sz d + Pl.hl (Pl.sz d) ≤ Pl.sz (d + 1) := by omega
  have b8 := Pl.sz_ge d
  clear b5
  obtain ⟨i0, hi, hz0, hz1, hz2⟩ := info_parts Try.info5
  go_enter Try.func6, Try.ntmps6
  go_wp2_with fail
  refine (deep_any d h1 h3 _).mono ?_
  rintro e w1 ⟨rfl, hbel, hsz, cur, hrow, hdeep⟩
  have HB : Hid (Below w.heap.size w w1) := hbel
  have HR : Hid (w1.heap[w.heap.size]? = some (.cells cur 5 (0, 0))) := hrow
  clear hbel hrow
  go_wp2_with fail
  rw [show ((d : Int) + 1) = ((d + 1 : Nat) : Int) from by omega]
  refine (deep_any (d + 1) (by omega) h3' _).mono ?_
  rintro e w2 ⟨rfl, hbel2, hsz2, cur2, hrow2, hdeep2⟩
  have HB2 : Hid (Below w1.heap.size w1 w2) := hbel2
  have HR2 : Hid (w2.heap[w1.heap.size]? = some (.cells cur2 5 (0, 0))) := hrow2
  clear hbel2 hrow2
  go_wp2_with (first | (go_at_call 8; refine (zzLen_any _ (by omega) _).mono ?_; rintro e w' ⟨rfl, rfl⟩) | (at_make; refine wpList_make_full _ rfl (.tmp 29) (.tmp 29) 24 rfl w'.heap.size 5 i0 (.int .u8 0) 1 Try.underlying24 hi hz0 hz1 _ _ _ _ (Pl.hl (Pl.sz d)) rfl rfl rfl rfl (by rw [hz2]; omega) (by unfold maxLen; omega) (Nat.le_refl _) ?_; intro w3 hown hgr; obtain ⟨cur3, hrow3, hcs⟩ := made hown; have HR3 : Hid (w3.heap[w'.heap.size]? = some (.cells cur3 5 (0, 0))) := hrow3; clear hown hrow3))
  refine (zzPut_any w'.heap.size 0 _ (Pl.sz d) _ cur3 _ (by omega) HR3.out rfl (by omega)).mono ?_
  rintro e w4 ⟨rfl, cur4, hW4, hH4⟩
  have k0 : w4.heap[w.heap.size]? = some (.cells cur 5 (0, 0)) := by
    rw [hW4.other _ (by omega), hgr.block _ (by omega) (by simp), HB2.out.block _ hsz]; exact HR.out
  have k1 : w4.heap[w1.heap.size]? = some (.cells cur2 5 (0, 0)) := by
    rw [hW4.other _ (by omega), hgr.block _ hsz2 (by simp)]; exact HR2.out
  have hbel : Below w.heap.size w w4 := by
    refine (HB.out.trans (HB2.out.mono (by omega))).trans (Below.trans ?_ (hW4.below (by omega)))
    exact (Below.refl _ w').grown hgr (by omega) (fun k h => by cases h)
  have x1 : ∀ j, j < Pl.hl (Pl.sz d) → w4.cell? ⟨w1.heap.size, 0 + j, none⟩ = some (.int .u8 (Pl.D (d + 1) j)) := fun j hj => by
    rw [Nat.zero_add, cell_of_row w4 _ _ cur2 5 (0, 0) k1]; exact hdeep2.2 j (by omega)
  have y1 : ∀ j, j < Pl.hl (Pl.sz d) → w4.cell? ⟨w'.heap.size, 0 + j, none⟩ = some (.int .u8 (Pl.hb (Pl.sz d) j)) := fun j hj => by
    rw [hW4.cell]; exact hH4.2.1 j hj
  have x2 : ∀ j, j < Pl.sz (d + 1) - Pl.hl (Pl.sz d) → w4.cell? ⟨w1.heap.size, Pl.hl (Pl.sz d) + j, none⟩ = some (.int .u8 (Pl.D (d + 1) (Pl.hl (Pl.sz d) + j))) := fun j hj => by
    rw [cell_of_row w4 _ _ cur2 5 (0, 0) k1]; exact hdeep2.2 _ (by omega)
  have y2 : ∀ j, j < Pl.sz d → w4.cell? ⟨w.heap.size, 0 + j, none⟩ = some (.int .u8 (Pl.D d j)) := fun j hj => by
    rw [Nat.zero_add, cell_of_row w4 _ _ cur 5 (0, 0) k0]; exact hdeep.2 j hj
  have HW : Hid (Below w.heap.size w w4) := hbel
  have X1 := hide x1
  have Y1 := hide y1
  have X2 := hide x2
  have Y2 := hide y2
  clear x1 y1 x2 y2 hbel k0 k1 hW4 hH4 HR3 HR2 HR HB HB2 hgr hdeep hdeep2 hcs
  go_wp2_with fail
  refine (cmp_any w1.heap.size 0 _ _ w'.heap.size 0 _ _ (fun j => Pl.D (d + 1) j) (fun j => Pl.hb (Pl.sz d) j) _ X1.out Y1.out (by omega) (by omega)).mono ?_
  rintro e w5 ⟨c, rfl, hc, nq, rfl⟩
  obtain rfl : c = 0 := cmp_zero hc rfl (fun j hj => Pl.D_head d j hj)
  go_wp2_with fail
  refine (cmp_any w1.heap.size (Pl.hl (Pl.sz d)) _ _ w.heap.size 0 _ _ (fun j => Pl.D (d + 1) (Pl.hl (Pl.sz d) + j)) (fun j => Pl.D d j) (w4.drewN nq) (by exact X2.out) (by exact Y2.out) (by omega) (by omega)).mono ?_
  rintro e w5 ⟨c, rfl, hc, nq2, rfl⟩
  obtain rfl : c = 0 := cmp_zero hc (by omega) (fun j hj => Pl.D_tail d j)
  go_wp2
  go_ret
  exact ⟨rfl, HW.out.trans ⟨rfl, rfl, rfl, Nat.le_refl _, fun _ _ => rfl⟩⟩

theorem walk (a0 : Int) (w0 : (Lit.int .i64 a0).wf = true) (w : World) :
    Calls Try.prog 6 #[.int .i64 a0] w fun e w' => e = .returned (.bool true) ∧ Below w.heap.size w w' := by
  by_cases h1 : a0 < 1
  · go_enter Try.func6, Try.ntmps6
    go_wp2
    go_ret
    exact ⟨rfl, Below.refl _ _⟩
  by_cases h2 : 65535 < a0
  · go_enter Try.func6, Try.ntmps6
    go_wp2
    go_ret
    exact ⟨rfl, Below.refl _ _⟩
  · obtain ⟨d, rfl⟩ := Int.eq_ofNat_of_zero_le (show 0 ≤ a0 by omega)
    exact walk_in d (by omega) (by omega) w

/-! ### THE ROW's STEP: WRITTEN OUT: LEAVE IT -/
set_option maxRecDepth 100000 in
theorem lifted (os : Os) (started : os.Started) (H : Type) (enc : TypeId × Value → H) :
    ReturnsInHanded {} Try.checked os 6 .any (Rows.fnDeepListWrapsPreviousSpec.pre6 enc Try.prog Try.f6 Rows.fnDeepListWrapsPreviousRow.domain false) (Rows.fnDeepListWrapsPreviousSpec.post enc Try.prog Try.f6 false true false false) := by
  refine returnsInHanded_of_change (C := Try.checked) own started (by kernel_rfl) Try.func6
    (ChangeSpec.witness6 (enc := enc) (C := Try.checked) false ⟨#[], #[.int .i64 0], []⟩ 8 (by kernel_rfl) (by kernel_rfl) (by kernel_rfl) (by kernel_rfl)) ?_
  intro W base args ds gs before hval0 hW hcnd _
  have hval : ∀ (j : Nat) t v, Try.f6.params[j]? = some t → args[j]? = some v → Value.okWide Try.prog W .any base t v := hval0
  have hW' := hW
  obtain ⟨p, q, hA0, hV, rfl, hfz, hnd⟩ := hW
  have hA : DataW.TrodAll enc Try.prog W 0 (fun _ => true) true Try.f6.params.toList args.toList ds p := hA0
  rw [Try.params6] at hA hval
  obtain ⟨v0, vs0, d0, ds0, p0, q0, hargs, rfl, rfl, h0, r0⟩ := trodAll_cons hA
  obtain ⟨rfl, rfl, rfl⟩ := trodAll_nil r0
  obtain rfl : args = #[v0] := by cases args; simp_all
  obtain ⟨rfl, rfl⟩ := trodVars_none hV
  obtain ⟨a0, rfl, rfl, rfl, w0⟩ := open_int Try.underlying3 (hval 0 3 v0 rfl rfl) h0
  clear hA0 hval0
  simp only [List.append_nil] at hW'
  refine (walk a0 w0 W).mono fun e W' ⟨he, hg⟩ => ?_
  subst he
  exact ⟨_, rfl, _, _, _, [], _, [], hW', trodAll_mk1 (shut_bool Try.underlying4 _), (trodAll_cons_mk (shut_int Try.underlying3 w0) trodAll_mk0), rfl, hg.frame _, fun h => by cases h⟩

theorem over : Rows.fnDeepListWrapsPreviousRow.holds Try.pinned (OpenSpec.ofChange Rows.fnDeepListWrapsPreviousSpec) :=
  OpenClaim.holds_of_wide 6 Try.f6 rfl rfl rfl rfl rfl rfl rfl ⟨rfl, rfl, rfl, rfl, rfl⟩ rfl rfl rfl rfl rfl (by kernel_rfl) Try.func6 (by kernel_rfl)
    (of_decide_eq_true (by kernel_rfl)) (by unfold Func.isWrapper; first | (rw [if_pos (by decide +kernel)]; kernel_rfl) | (rw [if_neg (by decide +kernel)]; exact ⟨rfl, rfl⟩))
    (fun os started H enc _ => lifted os started H enc)

/-- ████ THE STATEMENT ████ -/
theorem proved : Rows.FnDeepListWrapsPreviousSaid :=
  over
#print axioms proved
end Go.Proofs.Qxb6603716a.fnDeepListWrapsPrevious
