/-
  A PROOF OF 'Rows.FnPutListHeaderDecodesBackSaid': the frame is the guide's (written by its program for this function; the walk ends in 'Below'); the walk is ours.
-/
import Derived.Test.Qxb6603716aRows
import Derived.Test.Qxb6603716aClone
import Derived.Test.Qxb6603716aParse
import Derived.WalkKit
import Derived.ProofKit
import Derived.OpenShut
import Derived.ShutString
import Derived.ChangeOld
import Derived.Below
namespace Go.Proofs.Qxb6603716a.fnPutListHeaderDecodesBack
open Go.ChangeShapes Go.WideShapes Go.ChangeAt Go.RowKit
open Go.ChangeMaps (open_string shut_string)
set_option linter.unusedVariables false

theorem own : ownKnob Try.prog.godebug = none := by kernel_rfl
theorem laidOut : laidOutB Try.prog = true := by kernel_rfl

/-- WHAT THE WALK IS TOLD OF A SLICE OF INTEGERS THAT CAME IN: it is nil; or it leads to a row of 'cap' cells, the numbers 'zs' (the first 'len' are its elements, the rest its spare room), each fitting its kind. -/
def IsRow (k : IntKind) (w : World) (a : Option Addr) (len cap : Nat) (zs : List Int) : Prop :=
  (a = none ∧ len = 0 ∧ cap = 0 ∧ zs = []) ∨
  ∃ x, a = some x ∧ len ≤ cap ∧ cap ≤ maxLen ∧ zs.length = cap ∧ (∀ i, i < zs.length → w.cell? (x.add i) = some (.int k (zs.getD i 0))) ∧ ∀ n ∈ zs, (Lit.int k n).wf = true

theorem ret_bool {a b : Bool} (h : a = b) : Ending.returned (.bool a) = .returned (.bool b) := by rw [h]

set_option maxRecDepth 100000 in
theorem walk_neg (a : Option Addr) (len cap : Nat) (n : Int) (w : World) (h : decide ((1048576 : Int) < (len : Int)) = false) (hl : len / 1048577 = 0) (hn : n < 0) :
    Calls Try.prog 4 #[.slice a len cap, .int .i64 n] w fun e w' => e = .returned (.bool true) ∧ Below w.heap.size w w' := by
  go_enter Try.func4, Try.ntmps4
  go_wp2_with (go_at_call 10; refine (zz10_yes _ _ _ _ _ h hl).mono ?_; rintro e w' ⟨rfl, rfl⟩)
  go_ret
  exact ⟨rfl, Below.refl _ _⟩

set_option maxRecDepth 100000 in
theorem walk_big (a : Option Addr) (len cap : Nat) (n : Int) (w : World) (h : decide ((1048576 : Int) < (len : Int)) = true) :
    Calls Try.prog 4 #[.slice a len cap, .int .i64 n] w fun e w' => e = .returned (.bool true) ∧ Below w.heap.size w w' := by
  go_enter Try.func4, Try.ntmps4
  go_wp2_with (go_at_call 10; refine (zz10_no _ _ _ _ _ h).mono ?_; rintro e w' ⟨rfl, rfl⟩)
  go_ret
  exact ⟨rfl, Below.refl _ _⟩

set_option maxRecDepth 100000 in
theorem walk_off (a : Option Addr) (len cap n : Nat) (w : World) (h : decide ((1048576 : Int) < (len : Int)) = false) (hl : len / 1048577 = 0) (hn : n < 9223372036854775808) (hne : ((len : Int) != (Pl.hl n : Int)) = true) :
    Calls Try.prog 4 #[.slice a len cap, .int .i64 n] w fun e w' => e = .returned (.bool true) ∧ Below w.heap.size w w' := by
  have HN : Hid (n < 9223372036854775808) := hn
  clear hn
  go_enter Try.func4, Try.ntmps4
  go_wp2_with (first | (go_at_call 10; refine (zz10_yes _ _ _ _ _ h hl).mono ?_; rintro e w' ⟨rfl, rfl⟩) | (go_at_call 8; refine (zzLen_any _ HN.out _).mono ?_; rintro e w' ⟨rfl, rfl⟩))
  go_ret
  exact ⟨rfl, Below.refl _ _⟩

set_option maxRecDepth 100000 in
theorem walk_main (b off len cap n : Nat) (z : Nat → Int) (w : World) (h : decide ((1048576 : Int) < (len : Int)) = false) (hl : len / 1048577 = 0) (hn : n < 9223372036854775808) (he : len = Pl.hl n)
    (hb : b < w.heap.size) (hc : ∀ i, i < len → w.cell? ⟨b, off + i, none⟩ = some (.int .u8 (z i))) :
    Calls Try.prog 4 #[.slice (some ⟨b, off, none⟩) len cap, .int .i64 n] w fun e w' => e = .returned (.bool true) ∧ Below w.heap.size w w' := by
  have HN : Hid (n < 9223372036854775808) := hn
  have HE : Hid (len = Pl.hl n) := he
  have HC : Hid (∀ i, i < len → w.cell? ⟨b, off + i, none⟩ = some (.int .u8 (z i))) := hc
  have hn' : n / 9223372036854775808 = 0 := by omega
  have g1 : ((len : Int) != (Pl.hl n : Int)) = false := by rw [he]; simp
  clear hn hc he
  go_enter Try.func4, Try.ntmps4
  go_wp2_with (first | (go_at_call 10; refine (zz10_yes _ _ _ _ _ h hl).mono ?_; rintro e w' ⟨rfl, rfl⟩) | (go_at_call 8; refine (zzLen_any _ HN.out _).mono ?_; rintro e w' ⟨rfl, rfl⟩))
  refine (clone_any b off len cap z _ hl hb HC.out).mono ?_
  rintro e w1 ⟨rfl, hbel, hsz, cur, hrow, hcs⟩
  have HB := hbel
  have HR : Hid (w1.heap[w'.heap.size]? = some (.cells cur 5 (0, 0))) := hrow
  clear hrow HC
  go_wp2_with fail
  refine (zzPut_any w'.heap.size 0 _ n _ cur _ HN.out HR.out HE.out (by omega)).mono ?_
  rintro e w2 ⟨rfl, cur2, hW, hH⟩
  clear HR
  go_wp2_with fail
  have r := parse_any w'.heap.size 0 len len 0 n w2 HN.out (fun j hj => by rw [Nat.zero_add, hW.cell]; exact hH.2.1 j hj) (by rw [← HE.out]; omega) (by omega)
  rw [show ((0 : Nat) : Int) = 0 from rfl, ← HE.out] at r
  refine r.mono ?_
  clear r
  rintro e w3 ⟨rfl, rfl⟩
  have hB3 : Below w'.heap.size w' w3 := hbel.trans (hW.below (Nat.le_refl _))
  have HB3 : Hid (Below w'.heap.size w' w3) := hB3
  clear hB3 hbel hW hH HB
  go_wp2
  go_ret
  exact ⟨rfl, HB3.out⟩

theorem walk (a0 : Option Addr) (len0 cap0 : Nat) (z0 : List Int) (a1 : Int) (w : World) (w0 : IsRow .u8 w a0 len0 cap0 z0) (w1 : (Lit.int .i64 a1).wf = true) :
    Calls Try.prog 4 #[.slice a0 len0 cap0, .int .i64 a1] w fun e w' => e = .returned (.bool true) ∧ Below w.heap.size w w' := by
  obtain ⟨c1, c2⟩ := bounds_i64 w1
  by_cases h : len0 ≤ 1048576
  · have d : decide ((1048576 : Int) < (len0 : Int)) = false := decide_eq_false (by omega)
    have hl : len0 / 1048577 = 0 := by omega
    by_cases hn : a1 < 0
    · exact walk_neg a0 len0 cap0 a1 w d hl hn
    · obtain ⟨n, rfl⟩ := Int.eq_ofNat_of_zero_le (show 0 ≤ a1 by omega)
      by_cases he : len0 = Pl.hl n
      · rcases w0 with ⟨rfl, rfl, _⟩ | ⟨x, rfl, hlc, _, hz, hc, _⟩
        · have := Pl.hl_pos n; omega
        · have hp := Pl.hl_pos n
          obtain ⟨b, off, spot⟩ := x
          have hs : spot = none := by simpa [Addr.add] using World.cell?_spot (hc 0 (by omega))
          subst hs
          have hc' : ∀ i, i < len0 → w.cell? ⟨b, off + i, none⟩ = some (.int .u8 (z0.getD i 0)) := fun i hi => by rw [← add_plain]; exact hc i (by omega)
          exact walk_main b off len0 cap0 n (fun i => z0.getD i 0) w d hl (by omega) he (block_lt_of_cell (hc' 0 (by omega))) hc'
      · exact walk_off a0 len0 cap0 n w d hl (by omega) (bne_iff_ne.2 (by omega))
  · exact walk_big a0 len0 cap0 a1 w (decide_eq_true (by omega))

/-! ### THE ROW's STEP: WRITTEN OUT: LEAVE IT -/
set_option maxRecDepth 100000 in
theorem lifted (os : Os) (started : os.Started) (H : Type) (enc : TypeId × Value → H) :
    ReturnsInHanded {} Try.checked os 4 .any (Rows.fnPutListHeaderDecodesBackSpec.pre6 enc Try.prog Try.f4 Rows.fnPutListHeaderDecodesBackRow.domain false) (Rows.fnPutListHeaderDecodesBackSpec.post enc Try.prog Try.f4 false true false false) := by
  refine returnsInHanded_of_change (C := Try.checked) own started (by kernel_rfl) Try.func4
    (ChangeSpec.witness6 (enc := enc) (C := Try.checked) false ⟨#[], #[.slice none 0 0, .int .i64 0], []⟩ 8 (by kernel_rfl) (by kernel_rfl) (by kernel_rfl) (by kernel_rfl)) ?_
  intro W base args ds gs before hval0 hW hcnd _
  have hval : ∀ (j : Nat) t v, Try.f4.params[j]? = some t → args[j]? = some v → Value.okWide Try.prog W .any base t v := hval0
  have hW' := hW
  obtain ⟨p, q, hA0, hV, rfl, hfz, hnd⟩ := hW
  have hA : DataW.TrodAll enc Try.prog W 0 (fun _ => true) true Try.f4.params.toList args.toList ds p := hA0
  rw [Try.params4] at hA hval
  obtain ⟨v0, vs0, d0, ds0, p0, q0, hargs, rfl, rfl, h0, r0⟩ := trodAll_cons hA
  obtain ⟨v1, vs1, d1, ds1, p1, q1, rfl, rfl, rfl, h1, r1⟩ := trodAll_cons r0
  obtain ⟨rfl, rfl, rfl⟩ := trodAll_nil r1
  obtain rfl : args = #[v0, v1] := by cases args; simp_all
  obtain ⟨rfl, rfl⟩ := trodVars_none hV
  obtain ⟨a0, len0, cap0, rfl⟩ := okWide_slice Try.underlying24 (hval 0 24 v0 rfl rfl)
  have k0 := h0
  have lt0 : ∀ x ∈ p0, x.block < W.heap.size := by obtain ⟨m, hm⟩ := k0; exact DataW.trod_lt m _ _ _ hm
  obtain ⟨z0, w0⟩ : ∃ zs, IsRow .u8 W a0 len0 cap0 zs := by
    obtain ⟨fuel, hf⟩ := h0
    rcases open_ints Try.underlying24 Try.underlying5 (by kernel_rfl) hf with ⟨hcs, _⟩ | ⟨x, l, c, zs, hcs, _, hl, hm, hz, _, hcell, hwz⟩
    · simp [Value.cells] at hcs
      obtain ⟨rfl, rfl, rfl⟩ := hcs
      exact ⟨[], .inl ⟨rfl, rfl, rfl, rfl⟩⟩
    · simp [Value.cells] at hcs
      obtain ⟨rfl, rfl, rfl⟩ := hcs
      exact ⟨zs, .inr ⟨_, rfl, hl, hm, by simpa using hz, hcell, hwz⟩⟩
  obtain ⟨a1, rfl, rfl, rfl, w1⟩ := open_int Try.underlying3 (hval 1 3 v1 rfl rfl) h1
  clear hA0 hval0
  refine (walk a0 len0 cap0 z0 a1 W w0 w1).mono fun e W' ⟨he, bel⟩ => ?_
  subst he
  exact ⟨_, rfl, _, _, _, [], _, [], hW', trodAll_mk1 (shut_bool Try.underlying4 _), (trodAll_cons_mk (Below.trod laidOut (by kernel_rfl) (of_decide_eq_true (by kernel_rfl)) k0 bel lt0) (trodAll_cons_mk (shut_int Try.underlying3 w1) trodAll_mk0)), rfl, bel.frame _, fun h => by cases h⟩

theorem over : Rows.fnPutListHeaderDecodesBackRow.holds Try.pinned (OpenSpec.ofChange Rows.fnPutListHeaderDecodesBackSpec) :=
  OpenClaim.holds_of_wide 4 Try.f4 rfl rfl rfl rfl rfl rfl rfl ⟨rfl, rfl, rfl, rfl, rfl⟩ rfl rfl rfl rfl rfl (by kernel_rfl) Try.func4 (by kernel_rfl)
    (of_decide_eq_true (by kernel_rfl)) (by unfold Func.isWrapper; first | (rw [if_pos (by decide +kernel)]; kernel_rfl) | (rw [if_neg (by decide +kernel)]; exact ⟨rfl, rfl⟩))
    (fun os started H enc _ => lifted os started H enc)

/-- ████ THE STATEMENT ████ -/
theorem proved : Rows.FnPutListHeaderDecodesBackSaid := over
#print axioms proved
end Go.Proofs.Qxb6603716a.fnPutListHeaderDecodesBack
