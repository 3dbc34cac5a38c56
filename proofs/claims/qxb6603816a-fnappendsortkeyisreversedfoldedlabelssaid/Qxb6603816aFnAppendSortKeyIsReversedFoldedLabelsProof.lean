/-
  A PROOF OF 'Rows.FnAppendSortKeyIsReversedFoldedLabelsSaid': the frame is the guide's (written by its program for this function; the walk ends in 'Below'); the walk is ours.
-/
import Derived.Test.Qxb6603816aRows
import Derived.Test.Qxb6603816aDecode
import Derived.WalkKit
import Derived.ProofKit
import Derived.OpenShut
import Derived.ShutString
import Derived.ChangeOld
import Derived.Below
namespace Go.Proofs.Qxb6603816a.fnAppendSortKeyIsReversedFoldedLabels
open Go.ChangeShapes Go.WideShapes Go.ChangeAt Go.RowKit
open Go.ChangeMaps (open_string shut_string)
set_option linter.unusedVariables false

theorem own : ownKnob Try.prog.godebug = none := by kernel_rfl
theorem laidOut : laidOutB Try.prog = true := by kernel_rfl

/-- WHAT THE WALK IS TOLD OF A SLICE OF INTEGERS THAT CAME IN: it is nil; or it leads to a row of 'cap' cells, the numbers 'zs' (the first 'len' are its elements, the rest its spare room), each fitting its kind. -/
def IsRow (k : IntKind) (w : World) (a : Option Addr) (len cap : Nat) (zs : List Int) : Prop :=
  (a = none ∧ len = 0 ∧ cap = 0 ∧ zs = []) ∨
  ∃ x, a = some x ∧ len ≤ cap ∧ cap ≤ maxLen ∧ zs.length = cap ∧ (∀ i, i < zs.length → w.cell? (x.add i) = some (.int k (zs.getD i 0))) ∧ ∀ n ∈ zs, (Lit.int k n).wf = true

/-! ### The bound (15) -/
theorem zz15_a (s : ByteArray) (a : Option Addr) (n cap : Nat) (w : World) (h : decide ((1048576 : Int) < (s.size : Int)) = true) :
    Calls Try.prog 15 #[.string s, .slice a n cap] w fun e w' => e = .returned (.bool false) ∧ w' = w := by
  go_enter Try.func15, Try.ntmps15
  go_wp2
  go_ret
  exact ⟨rfl, rfl⟩
theorem zz15_b (s : ByteArray) (a : Option Addr) (n cap : Nat) (w : World) (h : decide ((1048576 : Int) < (s.size : Int)) = false) (hl : s.size / 1048577 = 0) (h2 : decide ((1048576 : Int) < (n : Int)) = true) :
    Calls Try.prog 15 #[.string s, .slice a n cap] w fun e w' => e = .returned (.bool false) ∧ w' = w := by
  go_enter Try.func15, Try.ntmps15
  go_wp2
  go_ret
  exact ⟨rfl, rfl⟩
theorem zz15_c (s : ByteArray) (a : Option Addr) (n cap : Nat) (w : World) (h : decide ((1048576 : Int) < (s.size : Int)) = false) (hl : s.size / 1048577 = 0) (h2 : decide ((1048576 : Int) < (n : Int)) = false) (hl2 : n / 1048577 = 0) (h3 : decide ((1048576 : Int) < (s.size : Int) + (n : Int)) = true) :
    Calls Try.prog 15 #[.string s, .slice a n cap] w fun e w' => e = .returned (.bool false) ∧ w' = w := by
  go_enter Try.func15, Try.ntmps15
  go_wp2
  go_ret
  exact ⟨rfl, rfl⟩
theorem zz15_yes (s : ByteArray) (a : Option Addr) (n cap : Nat) (w : World) (h : decide ((1048576 : Int) < (s.size : Int)) = false) (hl : s.size / 1048577 = 0) (h2 : decide ((1048576 : Int) < (n : Int)) = false) (hl2 : n / 1048577 = 0) (h3 : decide ((1048576 : Int) < (s.size : Int) + (n : Int)) = false) :
    Calls Try.prog 15 #[.string s, .slice a n cap] w fun e w' => e = .returned (.bool true) ∧ w' = w := by
  go_enter Try.func15, Try.ntmps15
  go_wp2
  go_ret
  exact ⟨rfl, rfl⟩
theorem zz15_no (s : ByteArray) (a : Option Addr) (n cap : Nat) (w : World) (h : 1048576 < s.size + n) :
    Calls Try.prog 15 #[.string s, .slice a n cap] w fun e w' => e = .returned (.bool false) ∧ w' = w := by
  by_cases h1 : 1048576 < s.size
  · exact zz15_a s a n cap w (decide_eq_true (by omega))
  by_cases h2 : 1048576 < n
  · exact zz15_b s a n cap w (decide_eq_false (by omega)) (by omega) (decide_eq_true (by omega))
  · exact zz15_c s a n cap w (decide_eq_false (by omega)) (by omega) (decide_eq_false (by omega)) (by omega) (decide_eq_true (by omega))

set_option maxRecDepth 100000 in
theorem walk_long (s : ByteArray) (a : Option Addr) (n cap : Nat) (w : World) (h : 1048576 < s.size + n) :
    Calls Try.prog 5 #[.string s, .slice a n cap] w fun e w' => e = .returned (.bool true) ∧ Below w.heap.size w w' := by
  have H := hide h
  clear h
  go_enter Try.func5, Try.ntmps5
  go_wp2_with (go_at_call 15; refine (zz15_no _ _ _ _ _ H.out).mono ?_; rintro e w' ⟨rfl, rfl⟩)
  go_ret
  exact ⟨rfl, Below.refl _ _⟩

/-! ### Small facts -/
theorem lab_size_le (s : ByteArray) (j : Nat) : (lab s j).size ≤ s.size := by unfold lab; rw [ByteArray.size_extract]; omega
theorem encL_len (l : List Int) : (encL l).length ≤ 2 * l.length := by
  induction l with
  | nil => exact Nat.le_refl _
  | cons c l ih =>
    have : (enc1 c).length ≤ 2 := by unfold enc1; split <;> simp
    simp only [encL, List.length_append, List.length_cons]; omega
theorem Kr_len {s : ByteArray} (h : s.size ≤ 255) (m n : Nat) : (Kr s m n).length ≤ 600 * n := by
  induction n with
  | zero => exact Nat.le_refl _
  | succ n ih =>
    have h1 := encL_len (bs (lab s (m - 1 - n)))
    rw [bs_len] at h1
    have h2 := lab_size_le s (m - 1 - n)
    simp only [Kr, List.length_append, List.length_cons, List.length_nil]
    omega
theorem Kr_pos (s : ByteArray) (m n : Nat) (h : 0 < n) : 0 < (Kr s m n).length := by
  cases n with
  | zero => omega
  | succ n => simp only [Kr, List.length_append, List.length_cons]; omega
theorem lab_size {s : ByteArray} {m j : Nat} (h : Wire s m) (hj : j < m) : (lab s j).size = byt s (P s j) := by
  have := (h.lab j hj).2
  unfold lab
  rw [ByteArray.size_extract]
  omega

theorem owns_kept2 {w w' : World} {base e n : Nat} {v : Value} {xs : List Value} (h : w.ownsRow base e 1 v n xs) (hk : ∀ (b : Nat) (cur : Array Value), v.ownBlock = some b → w.heap[b]? = some (.cells cur e (0, 0)) → w'.heap[b]? = w.heap[b]?) : w'.ownsRow base e 1 v n xs := by
  refine ⟨h.1, ?_⟩
  rcases h.2 with r | ⟨g, cap, cur, rfl, r2, r3, r4⟩
  · exact .inl r
  · exact .inr ⟨g, cap, cur, rfl, r2, (hk g cur rfl r3).trans r3, r4⟩
theorem ownsRow_below {w w1 : World} {base e n : Nat} {v : Value} {xs : List Value} (h : w.ownsRow base e 1 v n xs) (hb : Below w.heap.size w w1) : w1.ownsRow base e 1 v n xs := owns_kept2 h (fun b _ _ hc => hb.block b (lt_of_block hc))

theorem txt_some {w : World} {a : Option Addr} {x : List Int} (h : Txt w a x) (hx : 0 < x.length) : ∃ b o, a = some ⟨b, o, none⟩ := by
  rcases h with rfl | ⟨b, o, h, _⟩
  · simp at hx
  · exact ⟨b, o, h⟩
theorem txt_at {w : World} {b o : Nat} {x : List Int} (h : Txt w (some ⟨b, o, none⟩) x) {i : Nat} (hi : i < x.length) : w.cell? ⟨b, o + i, none⟩ = some (.int .u8 (x.getD i 0)) := by
  rcases h with rfl | ⟨b', o', h1, h2, h3⟩
  · simp at hi
  · simp only [Option.some.injEq, Addr.mk.injEq, and_true] at h1
    obtain ⟨rfl, rfl⟩ := h1
    exact h3 i hi
theorem txt_lt {w : World} {b o : Nat} {x : List Int} (h : Txt w (some ⟨b, o, none⟩) x) (hx : 0 < x.length) : b < w.heap.size := by
  rcases h with rfl | ⟨b', o', h1, h2, h3⟩
  · simp at hx
  · simp only [Option.some.injEq, Addr.mk.injEq, and_true] at h1
    obtain ⟨rfl, rfl⟩ := h1
    exact h2
theorem getD_left {x y : List Int} {i : Nat} (h : i < x.length) : (x ++ y).getD i 0 = x.getD i 0 := by simp [List.getD, List.getElem?_append_left h]
theorem getD_right {x y : List Int} {i : Nat} : (x ++ y).getD (x.length + i) 0 = y.getD i 0 := by simp [List.getD, List.getElem?_append_right (show x.length ≤ x.length + i by omega)]
/-- The tail of a text is a text. -/
theorem txt_tail {w : World} {b o : Nat} {x y : List Int} (h : Txt w (some ⟨b, o, none⟩) (x ++ y)) : Txt w (some ⟨b, o + x.length, none⟩) y := by
  rcases Nat.eq_zero_or_pos y.length with h0 | h0
  · exact .inl (List.eq_nil_of_length_eq_zero h0)
  · have hx : 0 < (x ++ y).length := by simp; omega
    refine .inr ⟨b, o + x.length, rfl, txt_lt h hx, fun j hj => ?_⟩
    rw [Nat.add_assoc, txt_at h (by simp; omega), getD_right]
theorem txt_kept {w w' : World} {a : Option Addr} {t : List Int} (h : Txt w a t) (hb : Below w.heap.size w w') : Txt w' a t := h.kept hb
/-- What a slice that is owned looks like, empty or not. -/
theorem owns_form {w : World} {base e n : Nat} {v : Value} {xs : List Value} (h : w.ownsRow base e 1 v n xs) : ∃ a c, v = .slice a n c ∧ n ≤ c := by
  rcases h.2 with ⟨rfl, rfl⟩ | ⟨g, cap, cur, rfl, _, _, r4, _⟩
  · exact ⟨none, 0, rfl, Nat.le_refl _⟩
  · exact ⟨_, cap, rfl, r4⟩

/-- A callee that draws nothing, met behind draws. -/
theorem quiet_same {P : Program} {f : FuncId} {args : Array Value} {w : World} {a x : Nat} {v : Value} (h : Calls P f args (w.drewN (a + x)) fun e w' => e = .returned v ∧ w' = w.drewN (a + x)) :
    Calls P f args (w.drewN (a + x)) fun e w'' => e = .returned v ∧ ∃ n, w'' = w.drewN (a + n) :=
  h.mono fun _ _ ⟨he, hm⟩ => ⟨he, x, hm⟩
theorem fold_len (x : ByteArray) : (fold (bs x)).length = x.size := by simp [fold, bs_len]
theorem fold_at {x : ByteArray} {i : Nat} (h : i < x.size) : (fold (bs x)).getD i 0 = low (byt x i : Int) := by simp [fold, bs, List.getD, h]
theorem own_addr {w : World} {base e n : Nat} {a : Option Addr} {c : Nat} {xs : List Value} (h : w.ownsRow base e 1 (.slice a n c) n xs) : (a = none ∧ c = 0) ∨ ∃ g, a = some ⟨g, 0, none⟩ := by
  rcases h.2 with ⟨h', _⟩ | ⟨g, cap, cur, h', _⟩
  · simp only [Value.slice.injEq] at h'
    exact .inl ⟨h'.1, h'.2.2⟩
  · simp only [Value.slice.injEq] at h'
    exact .inr ⟨g, h'.1⟩

/-! ### The way to the end -/
set_option maxRecDepth 100000 in
set_option maxHeartbeats 1600000 in
theorem walk_main (s : ByteArray) (a : Option Addr) (cap : Nat) (txt : List Int) (w : World) (h : decide ((1048576 : Int) < (s.size : Int)) = false) (hl : s.size / 1048577 = 0) (h2 : decide ((1048576 : Int) < (txt.length : Int)) = false) (hl2 : txt.length / 1048577 = 0) (h3 : decide ((1048576 : Int) < (s.size : Int) + (txt.length : Int)) = false)
    (hnil : a = none → txt = [] ∧ cap = 0) (ht : Txt w a txt) :
    Calls Try.prog 5 #[.string s, .slice a txt.length cap] w fun e w' => e = .returned (.bool true) ∧ Below w.heap.size w w' := by
  have HN := hide hnil
  have HT := hide ht
  clear hnil ht
  go_enter Try.func5, Try.ntmps5
  go_wp2_with (go_at_call 15; refine (zz15_yes _ _ _ _ _ h hl h2 hl2 h3).mono ?_; rintro e w' ⟨rfl, rfl⟩)
  refine (valid_any s _ hl).mono ?_
  rintro e w' ⟨v, rfl, rfl, hv⟩
  rcases hv with rfl | ⟨rfl, m, hW⟩
  · go_wp2
    go_ret
    exact ⟨rfl, Below.refl _ _⟩
  have HW := hide hW
  have hm : m ≤ 127 := by have := hW.m_le; omega
  clear h h2 h3 hW
  go_wp2_with fail
  refine (clone_any a cap txt _ hl2 HN.out HT.out).mono ?_
  rintro e w1 ⟨v1, rfl, hB1, hO1, _⟩
  obtain ⟨a1, c1, rfl, hc1, hT1, hn1⟩ := txt_of_owns hO1
  have HB1 := hide hB1
  have HO1 := hide hO1
  have HT1 := hide hT1
  have HN1 := hide hn1
  have hs1 := hB1.size
  clear hB1 hO1 hT1 hn1 HT HN
  go_wp2_with fail
  refine (clone_any a1 c1 txt _ hl2 HN1.out HT1.out).mono ?_
  rintro e w2 ⟨v2, rfl, hB2, hO2, _⟩
  obtain ⟨a2, c2, rfl, hc2, hT2, _⟩ := txt_of_owns hO2
  have HB2 := hide hB2
  have HO2 := hide hO2
  have hs2 := hB2.size
  clear hB2 hO2 hT2 HT1 HN1
  go_wp2_with fail
  refine (name_any s _).mono ?_
  rintro e w3 ⟨rfl, hB3⟩
  have HB3 := hide hB3
  have hs3 := hB3.size
  clear hB3
  go_wp2_with fail
  have hO13 := hide (ownsRow_below (ownsRow_below HO1.out HB2.out) HB3.out)
  refine (zzKey_any s m w'.heap.size _ txt _ HW.out hO13.out (by omega) hl2).mono ?_
  rintro e w4 ⟨v4, rfl, hg4, hO4⟩
  have hs4 := hg4.size
  have hB4 : Below w'.heap.size w' w4 := ((HB1.out.trans (HB2.out.mono hs1)).trans (HB3.out.mono (by omega))).grown hg4 (by omega) (fun b hb => (HO1.out.lt b hb).1)
  have hO24 : w4.ownsRow w1.heap.size 5 1 (.slice a2 txt.length c2) txt.length (txt.map (Value.int .u8)) := by
    have h23 := ownsRow_below HO2.out HB3.out
    refine owns_kept2 h23 (fun b c hb hc => hg4.block b (lt_of_block hc) (fun hh => ?_))
    have := (h23.lt b hb).1
    have := (HO1.out.lt b hh.symm).2
    omega
  obtain ⟨a2', c2', e2', _, hT2, _⟩ := txt_of_owns hO24
  simp only [Value.slice.injEq, true_and] at e2'
  obtain ⟨rfl, rfl⟩ := e2'
  have hklen := Kr_len HW.out.size m m
  obtain ⟨key, hkey⟩ : ∃ key, key = Kr s m m := ⟨_, rfl⟩
  rw [← hkey] at hO4 hklen
  have hkl : key.length / 4194305 = 0 := by omega
  have hLL : (txt ++ key).length = txt.length + key.length := by simp
  obtain ⟨L, hL⟩ : ∃ L, L = (txt ++ key).length := ⟨_, rfl⟩
  obtain ⟨a4, c4, rfl, hc4, hT4, hn4⟩ := txt_of_owns hO4
  have HA4 := hide (own_addr hO4)
  rw [← hL] at hc4 hLL ⊢
  have hL1 : L ≤ txt.length + key.length := by omega
  have hL2 : txt.length + key.length ≤ L := by omega
  have HB4 := hide hB4
  have HT2 := hide hT2
  have HT4 := hide hT4
  have HN4 := hide hn4
  have HKEY := hide hkey
  clear hB4 hO24 hT2 hT4 hn4 hkey hO4 hg4 hO13 HO1 HO2 HB1 HB2 HB3 hL hLL hklen
  go_wp2_with fail
  go_loopw [7] (fun i wr => ∃ k n : Nat, k ≤ txt.length ∧ i = .int .i64 k ∧ wr = w4.drewN n) (fun i _ => txt.length - (intOf i).toNat)
  case atStart => exact ⟨0, 0, Nat.zero_le _, rfl, rfl⟩
  case round =>
    obtain ⟨k, n, hk, rfl, rfl⟩ := hrel
    by_cases hlt : k < txt.length
    · obtain ⟨b4, o4, rfl⟩ := txt_some HT4.out (by simp; omega)
      obtain ⟨b2, o2, rfl⟩ := txt_some HT2.out (by omega)
      have x4 := txt_at HT4.out (i := k) (by simp; omega)
      have x2 := txt_at HT2.out hlt
      rw [getD_left hlt] at x4
      obtain ⟨c, hc⟩ : ∃ c, c = txt.getD k 0 := ⟨_, rfl⟩
      rw [← hc] at x4 x2
      have q1 : (k : Int) < (txt.length : Int) := by omega
      have q2 : (k : Int) < (L : Int) := by omega
      have d1 : (c != c) = false := by simp
      clear hc
      go_wp2
      go_quiet (fail)
      go_wp2
      go_roundw
      case rel => exact ⟨k + 1, _, by omega, by go_num, rfl⟩
      case measure => simp [intOf]; omega
    · go_wp2_with fail
      refine (labels_any s m _ HW.out).mono ?_
      rintro e w5 ⟨v5, rfl, hB5, hO5⟩
      have hs5 : w4.heap.size ≤ w5.heap.size := hB5.size
      have hB5' : Below w4.heap.size w4 w5 := ⟨hB5.os, hB5.tape, hB5.output, hB5.size, hB5.block⟩
      have HT45 := hide (txt_kept HT4.out hB5')
      have HB5 := hide (HB4.out.trans (hB5'.mono (by omega)))
      obtain ⟨a5, c5, hv5, hc5⟩ := owns_form hO5
      subst hv5
      have HO5 := hide hO5
      clear hB5 hO5 hB5'
      have d9 : ((m : Int) != (m : Int)) = false := by simp
      by_cases hm0 : m = 0
      · subst hm0
        have hk0 : key = [] := by rw [HKEY.out]; rfl
        subst hk0
        simp only [List.length_nil] at hL1 hL2
        rcases HA4.out with ⟨rfl, rfl⟩ | ⟨g4, rfl⟩
        · have hT0 : txt.length ≤ 0 := by omega
          go_wp2_with fail
          refine (decode_any _ _ _ [] [] _ (by simp only [List.length_nil]; omega) rfl (.inl rfl) rfl).mono ?_
          rintro e w6 ⟨v6, rfl, hB6, hI6⟩
          have hI := hI6
          obtain ⟨es6, hr6, _⟩ := hI6
          obtain ⟨a6, c6, hv6, _⟩ := owns_form hr6
          rw [List.length_nil] at hv6
          subst hv6
          have hs6 := hB6.size
          have HB6 := hide (HB5.out.trans (hB6.mono (by omega)))
          clear hI hr6 hB6 HB5 HO5 HT45
          go_wp2
          refine wp_loop_rounds 1 ?_
          rw [rounds_succ]
          go_wp2
          go_ret
          exact ⟨rfl, HB6.out⟩
        · go_wp2_with fail
          all_goals
            refine (decode_any _ _ _ [] [] _ (by simp only [List.length_nil]; omega) rfl (.inl rfl) rfl).mono ?_
            rintro e w6 ⟨v6, rfl, hB6, hI6⟩
            have hI := hI6
            obtain ⟨es6, hr6, _⟩ := hI6
            obtain ⟨a6, c6, hv6, _⟩ := owns_form hr6
            rw [List.length_nil] at hv6
            subst hv6
            have hs6 := hB6.size
            have HB6 := hide (HB5.out.trans (hB6.mono (by omega)))
            clear hI hr6 hB6 HB5 HO5 HT45
            go_wp2
            refine wp_loop_rounds 1 ?_
            rw [rounds_succ]
            go_wp2
            go_ret
            exact ⟨rfl, HB6.out⟩
      · have hkp : 0 < key.length := by rw [HKEY.out]; exact Kr_pos s m m (by omega)
        obtain ⟨b4, o4, rfl⟩ := txt_some HT4.out (by simp; omega)
        rcases own_addr HO5.out with ⟨_, r5⟩ | ⟨g5, rfl⟩
        · omega
        go_wp2_with fail
        refine (decode_any _ _ _ key (Rv s m m) _ (by omega) hkl (txt_tail HT45.out) (by rw [HKEY.out]; exact law3 s m)).mono ?_
        rintro e w6 ⟨v6, rfl, hB6, hI6⟩
        have hR := Rv_len s m m
        obtain ⟨g6, p6, rfl, r6, _, _, f6⟩ := hI6.form (by rw [hR]; omega)
        rw [hR] at r6 f6 ⊢
        have hs6 := hB6.size
        have HB6 := hide (HB5.out.trans (hB6.mono (by omega)))
        have HL6 := hide (show ∀ i, i < m → w6.cell? ⟨g5, i, none⟩ = some (.string (lab s i)) from fun i hi => by
          have hr := ownsRow_below HO5.out hB6
          rw [hr.cellAt i (by omega)]
          simp [hi])
        have F6 := hide f6
        clear hI6 hB6 f6 hR HO5 HT45 HB5
        go_wp2
        go_loopw [11] (fun i wr => ∃ j n : Nat, j ≤ m ∧ i = .int .i64 j ∧ wr = w6.drewN n) (fun i _ => m - (intOf i).toNat)
        case atStart => exact ⟨0, 0, Nat.zero_le _, rfl, rfl⟩
        case round =>
          obtain ⟨j, n2, hj, rfl, rfl⟩ := hrel
          by_cases hjm : j < m
          · obtain ⟨x, hx⟩ : ∃ x, x = lab s (m - 1 - j) := ⟨_, rfl⟩
            have x5 := HL6.out (m - 1 - j) (by omega)
            obtain ⟨e6, x6, o6⟩ := F6.out j hjm
            rw [Rv_at s m m j hjm] at o6
            rw [← hx] at x5 o6
            have hxs : x.size = byt s (P s (m - 1 - j)) := by rw [hx]; exact lab_size HW.out (by omega)
            have hx1 := (HW.out.lab (m - 1 - j) (by omega)).1
            have hx2 := byt_lt s (P s (m - 1 - j))
            rw [← hxs] at hx1 hx2
            obtain ⟨h6, p7, rfl, _, _, _, x7⟩ := o6.form (fun hh => by have := congrArg List.length hh; rw [fold_len, List.length_nil] at this; omega)
            rw [fold_len] at x6 x7
            have X7 := hide x7
            have q1 : (0 : Int) ≤ (m : Int) - 1 - (j : Int) := by omega
            have q2 : (m : Int) - 1 - (j : Int) < (m : Int) := by omega
            have d8 : ((x.size : Int) != (x.size : Int)) = false := by simp
            clear hx hxs o6 x7
            go_wp2
            go_loopw [14] (fun i wr => ∃ i2 n3 : Nat, i2 ≤ x.size ∧ i = .int .i64 i2 ∧ wr = w6.drewN n3) (fun i _ => x.size - (intOf i).toNat)
            case atStart => exact ⟨0, n2, Nat.zero_le _, rfl, rfl⟩
            case round =>
              obtain ⟨i2, n3, hi2, rfl, rfl⟩ := hrel
              by_cases hix : i2 < x.size
              · have x8 := X7.out i2 hix
                rw [fold_at hix] at x8
                obtain ⟨c, hc⟩ : ∃ c, x[i2].toNat = c := ⟨_, rfl⟩
                have hcb : byt x i2 = c := by rw [← hc, byt_get hix]
                rw [hcb] at x8
                have hc2 : c < 256 := by rw [← hcb]; exact byt_lt _ _
                have q3 : (i2 : Int) < (x.size : Int) := by omega
                have d7 : (low (c : Int) != low (c : Int)) = false := by simp
                clear hcb
                go_wp2
                go_quiet ((go_at_call 21; exact quiet_same (zzLower_any (c : Int) _ (by omega) (by omega))))
                go_wp2
                go_roundw
                case rel => exact ⟨i2 + 1, _, by omega, by go_num, rfl⟩
                case measure => simp [intOf]; omega
              · go_wp2
                go_roundw
                case rel => exact ⟨j + 1, n3, by omega, by go_num, rfl⟩
                case measure => simp [intOf]; omega
          · go_wp2
            go_ret
            exact ⟨rfl, HB6.out.trans ⟨rfl, rfl, rfl, Nat.le_refl _, fun _ _ => rfl⟩⟩

/-- A row of bytes that came in is a text. -/
theorem txt_of_row {w : World} {a : Option Addr} {len cap : Nat} {zs : List Int} (h : IsRow .u8 w a len cap zs) : Txt w a (zs.take len) := by
  rcases Nat.eq_zero_or_pos len with h0 | h0
  · subst h0; exact .inl (by simp)
  · rcases h with ⟨_, rfl, _⟩ | ⟨x, rfl, hlc, _, hz, hc, _⟩
    · exact .inl (by simp)
    · obtain ⟨b, off, spot⟩ := x
      have hs : spot = none := by simpa [Addr.add] using World.cell?_spot (hc 0 (by omega))
      subst hs
      have hc' : ∀ i, i < cap → w.cell? ⟨b, off + i, none⟩ = some (.int .u8 (zs.getD i 0)) := fun i hi => by rw [← add_plain]; exact hc i (by omega)
      refine .inr ⟨b, off, rfl, block_lt_of_cell (hc' 0 (by omega)), fun j hj => ?_⟩
      simp only [List.length_take] at hj
      rw [hc' j (by omega)]
      simp only [List.getD_eq_getElem?_getD, List.getElem?_take]
      rw [if_pos (by omega)]

theorem walk (a0 : ByteArray) (a1 : Option Addr) (len1 cap1 : Nat) (z1 : List Int) (w : World) (w0 : a0.size ≤ maxLen) (w1 : IsRow .u8 w a1 len1 cap1 z1) :
    Calls Try.prog 5 #[.string a0, .slice a1 len1 cap1] w fun e w' => e = .returned (.bool true) ∧ Below w.heap.size w w' := by
  by_cases h : 1048576 < a0.size + len1
  · exact walk_long a0 a1 len1 cap1 w h
  · have ht : (z1.take len1).length = len1 := by
      rcases w1 with ⟨_, rfl, _, rfl⟩ | ⟨x, _, h1, _, h2, _⟩
      · rfl
      · simp; omega
    have r := walk_main a0 a1 cap1 (z1.take len1) w (decide_eq_false (by omega)) (by omega) (decide_eq_false (by omega)) (by omega) (decide_eq_false (by omega)) (fun hn => by
      rcases w1 with ⟨_, rfl, rfl, rfl⟩ | ⟨x, hx, _⟩
      · exact ⟨rfl, rfl⟩
      · rw [hn] at hx; cases hx) (txt_of_row w1)
    rw [ht] at r
    exact r

/-! ### THE ROW's STEP: WRITTEN OUT: LEAVE IT -/
set_option maxRecDepth 100000 in
theorem lifted (os : Os) (started : os.Started) (H : Type) (enc : TypeId × Value → H) :
    ReturnsInHanded {} Try.checked os 5 .any (Rows.fnAppendSortKeyIsReversedFoldedLabelsSpec.pre6 enc Try.prog Try.f5 Rows.fnAppendSortKeyIsReversedFoldedLabelsRow.domain false) (Rows.fnAppendSortKeyIsReversedFoldedLabelsSpec.post enc Try.prog Try.f5 false true false false) := by
  refine returnsInHanded_of_change (C := Try.checked) own started (by kernel_rfl) Try.func5
    (ChangeSpec.witness6 (enc := enc) (C := Try.checked) false ⟨#[], #[.string ByteArray.empty, .slice none 0 0], []⟩ 8 (by kernel_rfl) (by kernel_rfl) (by kernel_rfl) (by kernel_rfl)) ?_
  intro W base args ds gs before hval0 hW hcnd _
  have hval : ∀ (j : Nat) t v, Try.f5.params[j]? = some t → args[j]? = some v → Value.okWide Try.prog W .any base t v := hval0
  have hW' := hW
  obtain ⟨p, q, hA0, hV, rfl, hfz, hnd⟩ := hW
  have hA : DataW.TrodAll enc Try.prog W 0 (fun _ => true) true Try.f5.params.toList args.toList ds p := hA0
  rw [Try.params5] at hA hval
  obtain ⟨v0, vs0, d0, ds0, p0, q0, hargs, rfl, rfl, h0, r0⟩ := trodAll_cons hA
  obtain ⟨v1, vs1, d1, ds1, p1, q1, rfl, rfl, rfl, h1, r1⟩ := trodAll_cons r0
  obtain ⟨rfl, rfl, rfl⟩ := trodAll_nil r1
  obtain rfl : args = #[v0, v1] := by cases args; simp_all
  obtain ⟨rfl, rfl⟩ := trodVars_none hV
  obtain ⟨a0, rfl, rfl, rfl, w0⟩ := open_string Try.underlying9 (hval 0 9 v0 rfl rfl) h0
  obtain ⟨a1, len1, cap1, rfl⟩ := okWide_slice Try.underlying22 (hval 1 22 v1 rfl rfl)
  have k1 := h1
  have lt1 : ∀ x ∈ p1, x.block < W.heap.size := by obtain ⟨m, hm⟩ := k1; exact DataW.trod_lt m _ _ _ hm
  obtain ⟨z1, w1⟩ : ∃ zs, IsRow .u8 W a1 len1 cap1 zs := by
    obtain ⟨fuel, hf⟩ := h1
    rcases open_ints Try.underlying22 Try.underlying5 (by kernel_rfl) hf with ⟨hcs, _⟩ | ⟨x, l, c, zs, hcs, _, hl, hm, hz, _, hcell, hwz⟩
    · simp [Value.cells] at hcs
      obtain ⟨rfl, rfl, rfl⟩ := hcs
      exact ⟨[], .inl ⟨rfl, rfl, rfl, rfl⟩⟩
    · simp [Value.cells] at hcs
      obtain ⟨rfl, rfl, rfl⟩ := hcs
      exact ⟨zs, .inr ⟨_, rfl, hl, hm, by simpa using hz, hcell, hwz⟩⟩
  clear hA0 hval0
  refine (walk a0 a1 len1 cap1 z1 W w0 w1).mono fun e W' ⟨he, bel⟩ => ?_
  subst he
  exact ⟨_, rfl, _, _, _, [], _, [], hW', trodAll_mk1 (shut_bool Try.underlying4 _), (trodAll_cons_mk (shut_string Try.underlying9 w0) (trodAll_cons_mk (Below.trod laidOut (by kernel_rfl) (of_decide_eq_true (by kernel_rfl)) k1 bel lt1) trodAll_mk0)), rfl, bel.frame _, fun h => by cases h⟩

theorem over : Rows.fnAppendSortKeyIsReversedFoldedLabelsRow.holds Try.pinned (OpenSpec.ofChange Rows.fnAppendSortKeyIsReversedFoldedLabelsSpec) :=
  OpenClaim.holds_of_wide 5 Try.f5 rfl rfl rfl rfl rfl rfl rfl ⟨rfl, rfl, rfl, rfl, rfl⟩ rfl rfl rfl rfl rfl (by kernel_rfl) Try.func5 (by kernel_rfl)
    (of_decide_eq_true (by kernel_rfl)) (by unfold Func.isWrapper; first | (rw [if_pos (by decide +kernel)]; kernel_rfl) | (rw [if_neg (by decide +kernel)]; exact ⟨rfl, rfl⟩))
    (fun os started H enc _ => lifted os started H enc)

/-- ████ THE STATEMENT ████ -/
theorem proved : Rows.FnAppendSortKeyIsReversedFoldedLabelsSaid := over
#print axioms proved
end Go.Proofs.Qxb6603816a.fnAppendSortKeyIsReversedFoldedLabels
