/-
  A PROOF OF 'Rows.FnPutListHeaderKeepsOrderSaid': the frame is the guide's (written by its program for this function; the walk ends in 'Below'); the walk is ours.
-/
import Derived.Test.Qxb6603716aRows
import Derived.Test.Qxb6603716aClone
import Derived.Test.Qxb6603716aCmp
import Derived.WalkKit
import Derived.ProofKit
import Derived.OpenShut
import Derived.ShutString
import Derived.ChangeOld
import Derived.Below
namespace Go.Proofs.Qxb6603716a.fnPutListHeaderKeepsOrder
open Go.ChangeShapes Go.WideShapes Go.ChangeAt Go.RowKit
open Go.ChangeMaps (open_string shut_string)
set_option linter.unusedVariables false

theorem own : ownKnob Try.prog.godebug = none := by kernel_rfl
theorem laidOut : laidOutB Try.prog = true := by kernel_rfl

/-- WHAT THE WALK IS TOLD OF A SLICE OF INTEGERS THAT CAME IN: it is nil; or it leads to a row of 'cap' cells, the numbers 'zs' (the first 'len' are its elements, the rest its spare room), each fitting its kind. -/
def IsRow (k : IntKind) (w : World) (a : Option Addr) (len cap : Nat) (zs : List Int) : Prop :=
  (a = none ∧ len = 0 ∧ cap = 0 ∧ zs = []) ∨
  ∃ x, a = some x ∧ len ≤ cap ∧ cap ≤ maxLen ∧ zs.length = cap ∧ (∀ i, i < zs.length → w.cell? (x.add i) = some (.int k (zs.getD i 0))) ∧ ∀ n ∈ zs, (Lit.int k n).wf = true

theorem zz14_a (a c : Option Addr) (la ca lb cb : Nat) (m n : Int) (w : World) (h : decide ((1048576 : Int) < (la : Int)) = true) :
    Calls Try.prog 14 #[.slice a la ca, .int .i64 m, .slice c lb cb, .int .i64 n] w fun e w' => e = .returned (.bool false) ∧ w' = w := by
  go_enter Try.func14, Try.ntmps14
  go_wp2
  go_ret
  exact ⟨rfl, rfl⟩
theorem zz14_b (a c : Option Addr) (la ca lb cb : Nat) (m n : Int) (w : World) (h : decide ((1048576 : Int) < (la : Int)) = false) (hl : la / 1048577 = 0) (h2 : decide ((1048576 : Int) < (lb : Int)) = true) :
    Calls Try.prog 14 #[.slice a la ca, .int .i64 m, .slice c lb cb, .int .i64 n] w fun e w' => e = .returned (.bool false) ∧ w' = w := by
  go_enter Try.func14, Try.ntmps14
  go_wp2
  go_ret
  exact ⟨rfl, rfl⟩
theorem zz14_c (a c : Option Addr) (la ca lb cb : Nat) (m n : Int) (w : World) (h : decide ((1048576 : Int) < (la : Int)) = false) (hl : la / 1048577 = 0) (h2 : decide ((1048576 : Int) < (lb : Int)) = false) (hl2 : lb / 1048577 = 0) (h3 : decide ((1048576 : Int) < (la : Int) + (lb : Int)) = true) :
    Calls Try.prog 14 #[.slice a la ca, .int .i64 m, .slice c lb cb, .int .i64 n] w fun e w' => e = .returned (.bool false) ∧ w' = w := by
  go_enter Try.func14, Try.ntmps14
  go_wp2
  go_ret
  exact ⟨rfl, rfl⟩
theorem zz14_yes (a c : Option Addr) (la ca lb cb : Nat) (m n : Int) (w : World) (h : decide ((1048576 : Int) < (la : Int)) = false) (hl : la / 1048577 = 0) (h2 : decide ((1048576 : Int) < (lb : Int)) = false) (hl2 : lb / 1048577 = 0) (h3 : decide ((1048576 : Int) < (la : Int) + (lb : Int)) = false) :
    Calls Try.prog 14 #[.slice a la ca, .int .i64 m, .slice c lb cb, .int .i64 n] w fun e w' => e = .returned (.bool true) ∧ w' = w := by
  go_enter Try.func14, Try.ntmps14
  go_wp2
  go_ret
  exact ⟨rfl, rfl⟩
/-- Too long in all: the bound says no. -/
theorem zz14_no (a c : Option Addr) (la ca lb cb : Nat) (m n : Int) (w : World) (h : 1048576 < la + lb) :
    Calls Try.prog 14 #[.slice a la ca, .int .i64 m, .slice c lb cb, .int .i64 n] w fun e w' => e = .returned (.bool false) ∧ w' = w := by
  by_cases h1 : 1048576 < la
  · exact zz14_a a c la ca lb cb m n w (decide_eq_true (by omega))
  by_cases h2 : 1048576 < lb
  · exact zz14_b a c la ca lb cb m n w (decide_eq_false (by omega)) (by omega) (decide_eq_true (by omega))
  · exact zz14_c a c la ca lb cb m n w (decide_eq_false (by omega)) (by omega) (decide_eq_false (by omega)) (by omega) (decide_eq_true (by omega))

/-! ### The plain law -/
theorem cmp_lt {a b : Nat} {c : Int} (ga : a < 9223372036854775808) (gb : b < 9223372036854775808) (hab : a < b) (h : Cmp (fun j => Pl.hb a j) (Pl.hl a) (fun j => Pl.hb b j) (Pl.hl b) c) : c = -1 := by
  rcases h with ⟨h, _⟩ | ⟨_, ⟨i, h1, h2, h3, h4⟩ | ⟨h1, h2⟩⟩ | ⟨_, h1, h2⟩
  · exact h
  · exact absurd h4 (Pl.order a b ga gb hab i h1 h2 h3)
  · have := Pl.differ b a gb ga (by omega) (fun j hj => (h2 j hj).symm)
    omega
  · have := Pl.differ a b ga gb (by omega) h2
    omega
theorem cmp_gt {a b : Nat} {c : Int} (ga : a < 9223372036854775808) (gb : b < 9223372036854775808) (hab : b < a) (h : Cmp (fun j => Pl.hb a j) (Pl.hl a) (fun j => Pl.hb b j) (Pl.hl b) c) : c = 1 := by
  rcases h with ⟨_, ⟨i, h1, h2, h3, h4⟩ | ⟨h1, h2⟩⟩ | ⟨h, _⟩ | ⟨_, h1, h2⟩
  · exact absurd h4 (Pl.order b a gb ga hab i h2 h1 (fun j hj => (h3 j hj).symm))
  · have := Pl.differ a b ga gb (by omega) h2
    omega
  · exact h
  · have := Pl.differ a b ga gb (by omega) h2
    omega
theorem cmp_same {a : Nat} {c : Int} (h : Cmp (fun j => Pl.hb a j) (Pl.hl a) (fun j => Pl.hb a j) (Pl.hl a) c) : c = 0 := by
  rcases h with ⟨_, ⟨i, h1, h2, h3, h4⟩ | ⟨h1, h2⟩⟩ | ⟨_, ⟨i, h1, h2, h3, h4⟩ | ⟨h1, h2⟩⟩ | ⟨h, _⟩
  · exact absurd h4 (Nat.lt_irrefl _)
  · omega
  · exact absurd h4 (Nat.lt_irrefl _)
  · omega
  · exact h

/-! ### The ways on which the law answers true at once -/
set_option maxRecDepth 100000 in
theorem walk_long (a c : Option Addr) (la ca lb cb : Nat) (m n : Int) (w : World) (h : 1048576 < la + lb) :
    Calls Try.prog 5 #[.slice a la ca, .int .i64 m, .slice c lb cb, .int .i64 n] w fun e w' => e = .returned (.bool true) ∧ Below w.heap.size w w' := by
  have H : Hid (1048576 < la + lb) := h
  clear h
  go_enter Try.func5, Try.ntmps5
  go_wp2_with (go_at_call 14; refine (zz14_no _ _ _ _ _ _ _ _ _ H.out).mono ?_; rintro e w' ⟨rfl, rfl⟩)
  go_ret
  exact ⟨rfl, Below.refl _ _⟩

section
variable (a c : Option Addr) (la ca lb cb : Nat) (w : World)

set_option maxRecDepth 100000 in
theorem walk_neg1 (m n : Int) (hm : m < 0) (h : decide ((1048576 : Int) < (la : Int)) = false) (hl : la / 1048577 = 0) (h2 : decide ((1048576 : Int) < (lb : Int)) = false) (hl2 : lb / 1048577 = 0) (h3 : decide ((1048576 : Int) < (la : Int) + (lb : Int)) = false) :
    Calls Try.prog 5 #[.slice a la ca, .int .i64 m, .slice c lb cb, .int .i64 n] w fun e w' => e = .returned (.bool true) ∧ Below w.heap.size w w' := by
  go_enter Try.func5, Try.ntmps5
  go_wp2_with (go_at_call 14; refine (zz14_yes _ _ _ _ _ _ _ _ _ h hl h2 hl2 h3).mono ?_; rintro e w' ⟨rfl, rfl⟩)
  go_ret
  exact ⟨rfl, Below.refl _ _⟩
set_option maxRecDepth 100000 in
theorem walk_neg2 (m n : Int) (hm : ¬ m < 0) (hn : n < 0) (h : decide ((1048576 : Int) < (la : Int)) = false) (hl : la / 1048577 = 0) (h2 : decide ((1048576 : Int) < (lb : Int)) = false) (hl2 : lb / 1048577 = 0) (h3 : decide ((1048576 : Int) < (la : Int) + (lb : Int)) = false) :
    Calls Try.prog 5 #[.slice a la ca, .int .i64 m, .slice c lb cb, .int .i64 n] w fun e w' => e = .returned (.bool true) ∧ Below w.heap.size w w' := by
  go_enter Try.func5, Try.ntmps5
  go_wp2_with (go_at_call 14; refine (zz14_yes _ _ _ _ _ _ _ _ _ h hl h2 hl2 h3).mono ?_; rintro e w' ⟨rfl, rfl⟩)
  go_ret
  exact ⟨rfl, Below.refl _ _⟩
set_option maxRecDepth 100000 in
theorem walk_off1 (m n : Nat) (hm : m < 9223372036854775808) (hne : ((la : Int) != (Pl.hl m : Int)) = true) (h : decide ((1048576 : Int) < (la : Int)) = false) (hl : la / 1048577 = 0) (h2 : decide ((1048576 : Int) < (lb : Int)) = false) (hl2 : lb / 1048577 = 0) (h3 : decide ((1048576 : Int) < (la : Int) + (lb : Int)) = false) :
    Calls Try.prog 5 #[.slice a la ca, .int .i64 m, .slice c lb cb, .int .i64 n] w fun e w' => e = .returned (.bool true) ∧ Below w.heap.size w w' := by
  have HM : Hid (m < 9223372036854775808) := hm
  clear hm
  go_enter Try.func5, Try.ntmps5
  go_wp2_with (first | (go_at_call 14; refine (zz14_yes _ _ _ _ _ _ _ _ _ h hl h2 hl2 h3).mono ?_; rintro e w' ⟨rfl, rfl⟩) | (go_at_call 8; refine (zzLen_any m HM.out _).mono ?_; rintro e w' ⟨rfl, rfl⟩))
  go_ret
  exact ⟨rfl, Below.refl _ _⟩
set_option maxRecDepth 100000 in
theorem walk_off2 (m n : Nat) (hm : m < 9223372036854775808) (hn : n < 9223372036854775808) (heq : ((la : Int) != (Pl.hl m : Int)) = false) (hne : ((lb : Int) != (Pl.hl n : Int)) = true) (h : decide ((1048576 : Int) < (la : Int)) = false) (hl : la / 1048577 = 0) (h2 : decide ((1048576 : Int) < (lb : Int)) = false) (hl2 : lb / 1048577 = 0) (h3 : decide ((1048576 : Int) < (la : Int) + (lb : Int)) = false) :
    Calls Try.prog 5 #[.slice a la ca, .int .i64 m, .slice c lb cb, .int .i64 n] w fun e w' => e = .returned (.bool true) ∧ Below w.heap.size w w' := by
  have HM : Hid (m < 9223372036854775808) := hm
  have HN : Hid (n < 9223372036854775808) := hn
  clear hm hn
  go_enter Try.func5, Try.ntmps5
  go_wp2_with (go_at_call 14; refine (zz14_yes _ _ _ _ _ _ _ _ _ h hl h2 hl2 h3).mono ?_; rintro e w' ⟨rfl, rfl⟩)
  refine (zzLen_any m HM.out _).mono ?_
  rintro e w' ⟨rfl, rfl⟩
  go_wp2_with fail
  refine (zzLen_any n HN.out _).mono ?_
  rintro e w' ⟨rfl, rfl⟩
  go_wp2_with fail
  go_ret
  exact ⟨rfl, Below.refl _ _⟩
end

/-! ### The way to the comparison -/
set_option maxRecDepth 100000 in
set_option maxHeartbeats 800000 in
theorem walk_main (b1 o1 la ca b2 o2 lb cb m n : Nat) (z1 z2 : Nat → Int) (w : World) (h : decide ((1048576 : Int) < (la : Int)) = false) (hl : la / 1048577 = 0) (h2 : decide ((1048576 : Int) < (lb : Int)) = false) (hl2 : lb / 1048577 = 0) (h3 : decide ((1048576 : Int) < (la : Int) + (lb : Int)) = false)
    (hm : m < 9223372036854775808) (hn : n < 9223372036854775808) (hem : la = Pl.hl m) (hen : lb = Pl.hl n)
    (g1 : b1 < w.heap.size) (c1 : ∀ i, i < la → w.cell? ⟨b1, o1 + i, none⟩ = some (.int .u8 (z1 i))) (g2 : b2 < w.heap.size) (c2 : ∀ i, i < lb → w.cell? ⟨b2, o2 + i, none⟩ = some (.int .u8 (z2 i))) :
    Calls Try.prog 5 #[.slice (some ⟨b1, o1, none⟩) la ca, .int .i64 m, .slice (some ⟨b2, o2, none⟩) lb cb, .int .i64 n] w fun e w' => e = .returned (.bool true) ∧ Below w.heap.size w w' := by
  have HM : Hid (m < 9223372036854775808) := hm
  have HN : Hid (n < 9223372036854775808) := hn
  have HEM : Hid (la = Pl.hl m) := hem
  have HEN : Hid (lb = Pl.hl n) := hen
  have C1 : Hid (∀ i, i < la → w.cell? ⟨b1, o1 + i, none⟩ = some (.int .u8 (z1 i))) := c1
  have C2 : Hid (∀ i, i < lb → w.cell? ⟨b2, o2 + i, none⟩ = some (.int .u8 (z2 i))) := c2
  have q1 : ((la : Int) != (Pl.hl m : Int)) = false := by rw [hem]; simp
  have q2 : ((lb : Int) != (Pl.hl n : Int)) = false := by rw [hen]; simp
  clear hm hn hem hen c1 c2
  go_enter Try.func5, Try.ntmps5
  go_wp2_with (go_at_call 14; refine (zz14_yes _ _ _ _ _ _ _ _ _ h hl h2 hl2 h3).mono ?_; rintro e w' ⟨rfl, rfl⟩)
  refine (zzLen_any m HM.out _).mono ?_
  rintro e w' ⟨rfl, rfl⟩
  go_wp2_with fail
  refine (zzLen_any n HN.out _).mono ?_
  rintro e w' ⟨rfl, rfl⟩
  go_wp2_with fail
  refine (clone_any b1 o1 la ca z1 _ hl g1 C1.out).mono ?_
  rintro e w1 ⟨rfl, hb1, hs1, cur1, hr1, hc1⟩
  have HR1 : Hid (w1.heap[w'.heap.size]? = some (.cells cur1 5 (0, 0))) := hr1
  clear hr1
  go_wp2_with fail
  refine (clone_any b2 o2 lb cb z2 _ hl2 (by omega) (fun i hi => (hb1.cell (p := ⟨b2, o2 + i, none⟩) g2).trans (C2.out i hi))).mono ?_
  rintro e w2 ⟨rfl, hb2, hs2, cur2, hr2, hc2⟩
  have HR2 : Hid (w2.heap[w1.heap.size]? = some (.cells cur2 5 (0, 0))) := hr2
  clear hr2
  go_wp2_with fail
  refine (zzPut_any w'.heap.size 0 _ m _ cur1 _ HM.out ((hb2.block _ hs1).trans HR1.out) HEM.out (by omega)).mono ?_
  rintro e w3 ⟨rfl, cur3, hW3, hH3⟩
  go_wp2_with fail
  refine (zzPut_any w1.heap.size 0 _ n _ cur2 _ HN.out ((hW3.other _ (by omega)).trans HR2.out) HEN.out (by omega)).mono ?_
  rintro e w4 ⟨rfl, cur4, hW4, hH4⟩
  have k1 : w4.heap[w'.heap.size]? = some (.cells cur3 5 (0, 0)) := (hW4.other _ (by omega)).trans hW3.here
  have hbel : Below w'.heap.size w' w4 := ((hb1.trans (hb2.mono (by omega))).trans (hW3.below (Nat.le_refl _))).trans (hW4.below (by omega))
  have X : Hid (∀ j, j < la → w4.cell? ⟨w'.heap.size, 0 + j, none⟩ = some (.int .u8 (Pl.hb m j))) := fun j hj => by
    rw [cell_of_row w4 _ _ cur3 5 (0, 0) k1]; exact hH3.2.1 j (by rw [← HEM.out]; exact hj)
  have Y : Hid (∀ j, j < lb → w4.cell? ⟨w1.heap.size, 0 + j, none⟩ = some (.int .u8 (Pl.hb n j))) := fun j hj => by
    rw [hW4.cell]; exact hH4.2.1 j (by rw [← HEN.out]; exact hj)
  have HW : Hid (Below w'.heap.size w' w4) := hbel
  clear hbel k1 hW3 hW4 hH3 hH4 hb1 hb2 HR1 HR2 C1 C2 hc1 hc2
  go_wp2_with fail
  refine (cmp_any w'.heap.size 0 _ _ w1.heap.size 0 _ _ (fun j => Pl.hb m j) (fun j => Pl.hb n j) _ X.out Y.out (by omega) (by omega)).mono ?_
  rintro e w5 ⟨c, rfl, hc, nq, rfl⟩
  rw [HEM.out, HEN.out] at hc
  have fin : Below w'.heap.size w' (w4.drewN nq) := HW.out.trans ⟨rfl, rfl, rfl, Nat.le_refl _, fun _ _ => rfl⟩
  have FIN : Hid (Below w'.heap.size w' (w4.drewN nq)) := fin
  clear fin X Y HW
  rcases (show m < n ∨ n < m ∨ m = n from by omega) with l | l | l
  · obtain rfl : c = -1 := cmp_lt HM.out HN.out l hc
    clear hc
    go_wp2
    go_ret
    exact ⟨rfl, FIN.out⟩
  · obtain rfl : c = 1 := cmp_gt HM.out HN.out l hc
    clear hc
    go_wp2
    go_ret
    exact ⟨rfl, FIN.out⟩
  · have hc0 : c = 0 := by subst l; exact cmp_same hc
    subst hc0
    clear hc
    have l1 : m ≤ n := by omega
    have l2 : n ≤ m := by omega
    clear l
    go_wp2
    go_ret
    exact ⟨rfl, FIN.out⟩

/-- A slice that is not empty leads to cells of a block that is there. -/
theorem opened {w : World} {a : Option Addr} {len cap : Nat} {zs : List Int} (h : IsRow .u8 w a len cap zs) (h0 : 0 < len) : ∃ b off, a = some ⟨b, off, none⟩ ∧ b < w.heap.size ∧ ∀ i, i < len → w.cell? ⟨b, off + i, none⟩ = some (.int .u8 (zs.getD i 0)) := by
  rcases h with ⟨rfl, rfl, _⟩ | ⟨x, rfl, hlc, _, hz, hc, _⟩
  · omega
  · obtain ⟨b, off, spot⟩ := x
    have hs : spot = none := by simpa [Addr.add] using World.cell?_spot (hc 0 (by omega))
    subst hs
    have hc' : ∀ i, i < len → w.cell? ⟨b, off + i, none⟩ = some (.int .u8 (zs.getD i 0)) := fun i hi => by rw [← add_plain]; exact hc i (by omega)
    exact ⟨b, off, rfl, block_lt_of_cell (hc' 0 h0), hc'⟩

theorem walk (a0 : Option Addr) (len0 cap0 : Nat) (z0 : List Int) (a1 : Int) (a2 : Option Addr) (len2 cap2 : Nat) (z2 : List Int) (a3 : Int) (w : World) (w0 : IsRow .u8 w a0 len0 cap0 z0) (w1 : (Lit.int .i64 a1).wf = true) (w2 : IsRow .u8 w a2 len2 cap2 z2) (w3 : (Lit.int .i64 a3).wf = true) :
    Calls Try.prog 5 #[.slice a0 len0 cap0, .int .i64 a1, .slice a2 len2 cap2, .int .i64 a3] w fun e w' => e = .returned (.bool true) ∧ Below w.heap.size w w' := by
  obtain ⟨c1, c2⟩ := bounds_i64 w1
  obtain ⟨c3, c4⟩ := bounds_i64 w3
  by_cases h : 1048576 < len0 + len2
  · exact walk_long a0 a2 len0 cap0 len2 cap2 a1 a3 w h
  have d1 : decide ((1048576 : Int) < (len0 : Int)) = false := decide_eq_false (by omega)
  have d2 : decide ((1048576 : Int) < (len2 : Int)) = false := decide_eq_false (by omega)
  have d3 : decide ((1048576 : Int) < (len0 : Int) + (len2 : Int)) = false := decide_eq_false (by omega)
  have e1 : len0 / 1048577 = 0 := by omega
  have e2 : len2 / 1048577 = 0 := by omega
  by_cases hm : a1 < 0
  · exact walk_neg1 a0 a2 len0 cap0 len2 cap2 w a1 a3 hm d1 e1 d2 e2 d3
  by_cases hn : a3 < 0
  · exact walk_neg2 a0 a2 len0 cap0 len2 cap2 w a1 a3 hm hn d1 e1 d2 e2 d3
  obtain ⟨m, rfl⟩ := Int.eq_ofNat_of_zero_le (show 0 ≤ a1 by omega)
  obtain ⟨n, rfl⟩ := Int.eq_ofNat_of_zero_le (show 0 ≤ a3 by omega)
  by_cases hem : len0 = Pl.hl m
  · by_cases hen : len2 = Pl.hl n
    · have p1 := Pl.hl_pos m
      have p2 := Pl.hl_pos n
      obtain ⟨b1, o1, rfl, g1, k1⟩ := opened w0 (by omega)
      obtain ⟨b2, o2, rfl, g2, k2⟩ := opened w2 (by omega)
      exact walk_main b1 o1 len0 cap0 b2 o2 len2 cap2 m n (fun i => z0.getD i 0) (fun i => z2.getD i 0) w d1 e1 d2 e2 d3 (by omega) (by omega) hem hen g1 k1 g2 k2
    · exact walk_off2 a0 a2 len0 cap0 len2 cap2 w m n (by omega) (by omega) (by rw [hem]; simp) (bne_iff_ne.2 (by omega)) d1 e1 d2 e2 d3
  · exact walk_off1 a0 a2 len0 cap0 len2 cap2 w m n (by omega) (bne_iff_ne.2 (by omega)) d1 e1 d2 e2 d3

/-! ### THE ROW's STEP: WRITTEN OUT: LEAVE IT -/
set_option maxRecDepth 100000 in
theorem lifted (os : Os) (started : os.Started) (H : Type) (enc : TypeId × Value → H) :
    ReturnsInHanded {} Try.checked os 5 .any (Rows.fnPutListHeaderKeepsOrderSpec.pre6 enc Try.prog Try.f5 Rows.fnPutListHeaderKeepsOrderRow.domain false) (Rows.fnPutListHeaderKeepsOrderSpec.post enc Try.prog Try.f5 false true false false) := by
  refine returnsInHanded_of_change (C := Try.checked) own started (by kernel_rfl) Try.func5
    (ChangeSpec.witness6 (enc := enc) (C := Try.checked) false ⟨#[], #[.slice none 0 0, .int .i64 0, .slice none 0 0, .int .i64 0], []⟩ 8 (by kernel_rfl) (by kernel_rfl) (by kernel_rfl) (by kernel_rfl)) ?_
  intro W base args ds gs before hval0 hW hcnd _
  have hval : ∀ (j : Nat) t v, Try.f5.params[j]? = some t → args[j]? = some v → Value.okWide Try.prog W .any base t v := hval0
  have hW' := hW
  obtain ⟨p, q, hA0, hV, rfl, hfz, hnd⟩ := hW
  have hA : DataW.TrodAll enc Try.prog W 0 (fun _ => true) true Try.f5.params.toList args.toList ds p := hA0
  rw [Try.params5] at hA hval
  obtain ⟨v0, vs0, d0, ds0, p0, q0, hargs, rfl, rfl, h0, r0⟩ := trodAll_cons hA
  obtain ⟨v1, vs1, d1, ds1, p1, q1, rfl, rfl, rfl, h1, r1⟩ := trodAll_cons r0
  obtain ⟨v2, vs2, d2, ds2, p2, q2, rfl, rfl, rfl, h2, r2⟩ := trodAll_cons r1
  obtain ⟨v3, vs3, d3, ds3, p3, q3, rfl, rfl, rfl, h3, r3⟩ := trodAll_cons r2
  obtain ⟨rfl, rfl, rfl⟩ := trodAll_nil r3
  obtain rfl : args = #[v0, v1, v2, v3] := by cases args; simp_all
  obtain ⟨rfl, rfl⟩ := trodVars_none hV
  obtain ⟨a0, len0, cap0, rfl⟩ := okWide_slice Try.underlying24 (hval 0 24 v0 rfl rfl)
  have k0 := h0
  have lt0 : ∀ x ∈ p0, x.block < W.heap.size := by obtain ⟨m, hm⟩ := k0; exact DataW.trod_lt m _ _ _ hm
  obtain ⟨z0, w0⟩ : ∃ zs, IsRow .u8 W a0 len0 cap0 zs := by
    obtain ⟨fuel, hf⟩ := h0
    rcases open_ints Try.underlying24 Try.underlying5 (by kernel_rfl) hf with ⟨hcs, _⟩ | ⟨x, l, c, zs, hcs, _, hl, hm, hz, _, hcell, hwz⟩
    · simp [Value.cells] at hcs
      obtain ⟨rfl, rfl, rfl⟩ := hcs
      exact ⟨[], .inl ⟨rfl, rfl, rfl, rfl⟩⟩
    · simp [Value.cells] at hcs
      obtain ⟨rfl, rfl, rfl⟩ := hcs
      exact ⟨zs, .inr ⟨_, rfl, hl, hm, by simpa using hz, hcell, hwz⟩⟩
  obtain ⟨a1, rfl, rfl, rfl, w1⟩ := open_int Try.underlying3 (hval 1 3 v1 rfl rfl) h1
  obtain ⟨a2, len2, cap2, rfl⟩ := okWide_slice Try.underlying24 (hval 2 24 v2 rfl rfl)
  have k2 := h2
  have lt2 : ∀ x ∈ p2, x.block < W.heap.size := by obtain ⟨m, hm⟩ := k2; exact DataW.trod_lt m _ _ _ hm
  obtain ⟨z2, w2⟩ : ∃ zs, IsRow .u8 W a2 len2 cap2 zs := by
    obtain ⟨fuel, hf⟩ := h2
    rcases open_ints Try.underlying24 Try.underlying5 (by kernel_rfl) hf with ⟨hcs, _⟩ | ⟨x, l, c, zs, hcs, _, hl, hm, hz, _, hcell, hwz⟩
    · simp [Value.cells] at hcs
      obtain ⟨rfl, rfl, rfl⟩ := hcs
      exact ⟨[], .inl ⟨rfl, rfl, rfl, rfl⟩⟩
    · simp [Value.cells] at hcs
      obtain ⟨rfl, rfl, rfl⟩ := hcs
      exact ⟨zs, .inr ⟨_, rfl, hl, hm, by simpa using hz, hcell, hwz⟩⟩
  obtain ⟨a3, rfl, rfl, rfl, w3⟩ := open_int Try.underlying3 (hval 3 3 v3 rfl rfl) h3
  clear hA0 hval0
  refine (walk a0 len0 cap0 z0 a1 a2 len2 cap2 z2 a3 W w0 w1 w2 w3).mono fun e W' ⟨he, bel⟩ => ?_
  subst he
  exact ⟨_, rfl, _, _, _, [], _, [], hW', trodAll_mk1 (shut_bool Try.underlying4 _), (trodAll_cons_mk (Below.trod laidOut (by kernel_rfl) (of_decide_eq_true (by kernel_rfl)) k0 bel lt0) (trodAll_cons_mk (shut_int Try.underlying3 w1) (trodAll_cons_mk (Below.trod laidOut (by kernel_rfl) (of_decide_eq_true (by kernel_rfl)) k2 bel lt2) (trodAll_cons_mk (shut_int Try.underlying3 w3) trodAll_mk0)))), rfl, bel.frame _, fun h => by cases h⟩

theorem over : Rows.fnPutListHeaderKeepsOrderRow.holds Try.pinned (OpenSpec.ofChange Rows.fnPutListHeaderKeepsOrderSpec) :=
  OpenClaim.holds_of_wide 5 Try.f5 rfl rfl rfl rfl rfl rfl rfl ⟨rfl, rfl, rfl, rfl, rfl⟩ rfl rfl rfl rfl rfl (by kernel_rfl) Try.func5 (by kernel_rfl)
    (of_decide_eq_true (by kernel_rfl)) (by unfold Func.isWrapper; first | (rw [if_pos (by decide +kernel)]; kernel_rfl) | (rw [if_neg (by decide +kernel)]; exact ⟨rfl, rfl⟩))
    (fun os started H enc _ => lifted os started H enc)

/-- ████ THE STATEMENT ████ -/
theorem proved : Rows.FnPutListHeaderKeepsOrderSaid := over
#print axioms proved
end Go.Proofs.Qxb6603716a.fnPutListHeaderKeepsOrder
