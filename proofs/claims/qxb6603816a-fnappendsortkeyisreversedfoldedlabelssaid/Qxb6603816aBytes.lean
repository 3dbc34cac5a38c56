/-
  zzb1CloneBytes (8), zzb1SameBytes (11).
-/
import Derived.Test.Qxb6603816aSplit
import Derived.Lib.SliceRun
import Derived.Laws.CopyOwn
import Derived.Deep.QuietTactic
import Derived.BigQuiet
namespace Go.Proofs.Qxb6603816a
open Go.RowKit

theorem q22 : ∀ (w : World) (a : Option Addr) (n c n' c' : Nat), (binOp .eql 22 (.slice a n c) (.slice none n' c')).run Try.prog w = .ok (.bool a.isNone) w := fun w a n c n' c' => Lib.run_eql_slice_nil w _ _ a n c n' c' Try.underlying22

theorem clone_nil (w : World) : Calls Try.prog 8 #[.slice none 0 0] w fun e w' => ∃ v, e = .returned v ∧ v = .slice none 0 0 ∧ w' = w := by
  have q := q22
  go_enter Try.func8, Try.ntmps8
  go_wp2
  go_ret
  exact ⟨_, rfl, rfl, rfl⟩

theorem made5 {w : World} {B base n : Nat} {xs : List Value} (h : w.ownsRow base 5 1 (.slice (some ⟨B, 0, none⟩) n n) n xs) : ∃ cur : List Value, w.heap[B]? = some (.cells cur.toArray 5 (0, 0)) ∧ cur.length = n := by
  rcases h.2 with ⟨h', _⟩ | ⟨g, cap, cur, h', _, hg, _, _, hs, _⟩
  · simp at h'
  · simp only [Value.slice.injEq, Option.some.injEq, Addr.mk.injEq, and_true, true_and] at h'
    obtain ⟨rfl, rfl⟩ := h'
    exact ⟨cur.toList, by simpa using hg, by simp; omega⟩

theorem cells_of_txt {w w1 : World} {x : Addr} {t : List Int} {cs : List Value} (ht : Txt w (some x) t) (hcs : cs = t.map (Value.int .u8)) (hg : w.grownBy w1 none) : ∀ j v, cs[j]? = some v → w1.cell? (x.add j) = some v := by
  subst hcs
  intro j v hv
  have hj : j < t.length := by
    have := (List.getElem?_eq_some_iff.1 hv).1
    simpa using this
  rcases ht with rfl | ⟨b, o, hx, hb, hc⟩
  · simp at hj
  · obtain rfl := Option.some.inj hx
    rw [Addr.add_lit, World.cell?_of_block (w := w) (hg.block b hb (by simp)), hc j hj]
    rw [List.getElem?_map, List.getElem?_eq_getElem hj] at hv
    simp only [Option.map_some, Option.some.injEq] at hv
    rw [← hv]
    simp [List.getD, hj]

set_option maxRecDepth 100000 in
/-- The clone of a slice that is not nil: a new row that holds the same bytes. -/
theorem clone_some (x : Addr) (cap0 : Nat) (t : List Int) (w : World) (hl : t.length / 1048577 = 0) (ht : Txt w (some x) t) :
    Calls Try.prog 8 #[.slice (some x) t.length cap0] w fun e w' => e = .returned (.slice (some ⟨w.heap.size, 0, none⟩) t.length t.length) ∧ Below w.heap.size w w' ∧
      w'.ownsRow w.heap.size 5 1 (.slice (some ⟨w.heap.size, 0, none⟩) t.length t.length) t.length (t.map (Value.int .u8)) := by
  obtain ⟨i5, hi5, hz50, hz51, hz52⟩ := info_parts Try.info5
  have q := q22
  have hsz : (Try.prog.info? 5).map (·.size) = some 1 := by rw [hi5]; simp [hz51]
  have HT := hide ht
  obtain ⟨cs, hcs⟩ : ∃ cs, cs = t.map (Value.int .u8) := ⟨_, rfl⟩
  have hlen : cs.length = t.length := by rw [hcs]; simp
  have hone : ∀ v ∈ cs, v.oneCell' = true := by rw [hcs]; exact ints_oneCell _ _
  have HCS := hide hcs
  have HL := hide hlen
  have HO := hide hone
  clear ht hcs hlen hone
  go_enter Try.func8, Try.ntmps8
  go_wp2_with (first
    | (at_make; refine wpList_make_full _ rfl (.tmp 7) (.tmp 7) 22 rfl w.heap.size 5 i5 (.int .u8 0) 1 Try.underlying22 hi5 hz50 hz51 _ _ _ _ t.length rfl rfl rfl rfl (by rw [hz52]; omega) (by unfold maxLen; omega) (Nat.le_refl _) ?_; intro w1 hown hgr; obtain ⟨cur, hrow, hcl⟩ := made5 hown; have HR := hide hrow; have HCL := hide hcl; have HG := hide hgr; clear hown hrow hcl hgr)
    | (refine wpList_copy_splice (by rfl) (.tmp 9) (.tmp 10) 22 22 (by rfl) 5 Try.underlying22 hsz _ _ _ _ _ _ (by rfl) (by rfl) w.heap.size 0 cur 5 HR.out cs (by rw [HL.out]; exact (Nat.min_self _).symm) (fun h0 => ⟨rfl, _, rfl, cells_of_txt HT.out HCS.out HG.out⟩) (by rw [HL.out, HCL.out]; omega) HO.out w.heap.size w ((Below.refl _ w).grown HG.out (Nat.le_refl _) (fun b hb => by cases hb)) (Nat.le_refl _) ?_; intro w2 HG2 hB2))
  go_ret
  refine ⟨rfl, hB2, ?_⟩
  have e1 : splice cur 0 cs = t.map (Value.int .u8) := by
    rw [← HCS.out]
    simp [splice, List.drop_eq_nil_of_le (show cur.length ≤ cs.length by rw [HL.out, HCL.out]; exact Nat.le_refl _)]
  have h2 := HG2.out
  rw [e1] at h2
  exact ⟨by simp, .inr ⟨w.heap.size, t.length, _, rfl, Nat.le_refl _, h2, Nat.le_refl _, by unfold maxLen; omega, by simp, List.take_of_length_le (by simp)⟩⟩

/-- zzb1CloneBytes, nil or not. -/
theorem clone_any (a : Option Addr) (cap0 : Nat) (t : List Int) (w : World) (hl : t.length / 1048577 = 0) (hnil : a = none → t = [] ∧ cap0 = 0) (ht : Txt w a t) :
    Calls Try.prog 8 #[.slice a t.length cap0] w fun e w' => ∃ v, e = .returned v ∧ Below w.heap.size w w' ∧ w'.ownsRow w.heap.size 5 1 v t.length (t.map (Value.int .u8)) ∧ (v = .slice none 0 0 ↔ a = none) := by
  cases a with
  | none =>
    obtain ⟨rfl, rfl⟩ := hnil rfl
    refine (clone_nil w).mono ?_
    rintro e w' ⟨v, rfl, rfl, rfl⟩
    exact ⟨_, rfl, Below.refl _ _, World.ownsRow_nil _ _ _ _, by simp⟩
  | some x =>
    refine (clone_some x cap0 t w hl ht).mono ?_
    rintro e w' ⟨rfl, h1, h2⟩
    exact ⟨_, rfl, h1, h2, by simp⟩

/-- What is owned is a text. -/
theorem txt_of_owns {w : World} {base : Nat} {v : Value} {t : List Int} (h : w.ownsRow base 5 1 v t.length (t.map (Value.int .u8))) :
    ∃ a c, v = .slice a t.length c ∧ t.length ≤ c ∧ Txt w a t ∧ (a = none → t = [] ∧ c = 0) := by
  rcases h.2 with ⟨rfl, r⟩ | ⟨g, cap, cur, rfl, r2, r3, r4, _⟩
  · obtain rfl := List.eq_nil_of_length_eq_zero r
    exact ⟨none, 0, rfl, Nat.le_refl _, .inl rfl, fun _ => ⟨rfl, rfl⟩⟩
  · refine ⟨_, cap, rfl, r4, .inr ⟨g, 0, rfl, lt_of_block r3, fun j hj => ?_⟩, fun hh => by cases hh⟩
    rw [Nat.zero_add, h.cellAt j (by omega)]
    simp [List.getD, hj]
theorem Txt.kept {w w' : World} {a : Option Addr} {t : List Int} (h : Txt w a t) (hb : Below w.heap.size w w') : Txt w' a t := by
  rcases h with r | ⟨b, o, r1, r2, r3⟩
  · exact .inl r
  · exact .inr ⟨b, o, r1, by have := hb.size; omega, fun j hj => (hb.cell (p := ⟨b, o + j, none⟩) r2).trans (r3 j hj)⟩
theorem Txt.drewN {w : World} {a : Option Addr} {t : List Int} (h : Txt w a t) (n : Nat) : Txt (w.drewN n) a t := h

theorem owns_len {w : World} {base e n : Nat} {v : Value} {xs : List Value} (h : w.ownsRow base e 1 v n xs) : n / 9223372036854775808 = 0 := by
  rcases h.2 with ⟨_, rfl⟩ | ⟨g, cap, cur, _, _, _, r4, r5, _⟩
  · rfl
  · unfold maxLen at r5; omega
theorem Items.len {w : World} {base : Nat} {v : Value} {its : List (List Int)} (h : Items w base v its) : its.length / 9223372036854775808 = 0 := by
  obtain ⟨es, h1, _⟩ := h
  exact owns_len h1

set_option maxHeartbeats 800000 in
theorem same_some (b1 o1 c1 b2 o2 c2 : Nat) (t : List Int) (w : World) (hl : t.length / 9223372036854775808 = 0) (h1 : ∀ j, j < t.length → w.cell? ⟨b1, o1 + j, none⟩ = some (.int .u8 (t.getD j 0))) (h2 : ∀ j, j < t.length → w.cell? ⟨b2, o2 + j, none⟩ = some (.int .u8 (t.getD j 0))) :
    Calls Try.prog 11 #[.slice (some ⟨b1, o1, none⟩) t.length c1, .slice (some ⟨b2, o2, none⟩) t.length c2] w fun e w' => e = .returned (.bool true) ∧ ∃ n, w' = w.drewN n := by
  have H1 := hide h1
  have H2 := hide h2
  clear h1 h2
  have d0 : ((t.length : Int) != (t.length : Int)) = false := by simp
  go_enter Try.func11, Try.ntmps11
  go_wp2
  go_loopw [5] (fun i wr => ∃ k n : Nat, k ≤ t.length ∧ i = .int .i64 k ∧ wr = w.drewN n) (fun i _ => t.length - (intOf i).toNat)
  case atStart => exact ⟨0, 0, Nat.zero_le _, rfl, rfl⟩
  case round =>
    obtain ⟨k, n, hk, rfl, rfl⟩ := hrel
    by_cases hlt : k < t.length
    · obtain ⟨c, hc⟩ : ∃ c, c = t.getD k 0 := ⟨_, rfl⟩
      have g1 := H1.out k hlt
      have g2 := H2.out k hlt
      rw [← hc] at g1 g2
      have q1 : (k : Int) < (t.length : Int) := by omega
      have d1 : (c != c) = false := by simp
      clear hc
      go_wp2
      go_quiet (fail)
      go_wp2
      go_roundw
      case rel => exact ⟨k + 1, _, by omega, by go_num, rfl⟩
      case measure => simp [intOf]; omega
    · go_wp2
      go_ret
      exact ⟨rfl, _, rfl⟩
theorem same_none (a1 a2 : Option Addr) (c1 c2 : Nat) (w : World) :
    Calls Try.prog 11 #[.slice a1 0 c1, .slice a2 0 c2] w fun e w' => e = .returned (.bool true) ∧ ∃ n, w' = w.drewN n := by
  go_enter Try.func11, Try.ntmps11
  go_wp2
  refine wp_loop_rounds 1 ?_
  rw [rounds_succ]
  go_wp2
  go_ret
  exact ⟨rfl, 0, rfl⟩
/-- zzb1SameBytes of two slices that read the same bytes. -/
theorem same_any (a1 a2 : Option Addr) (c1 c2 : Nat) (t : List Int) (w : World) (hl : t.length / 9223372036854775808 = 0) (h1 : Txt w a1 t) (h2 : Txt w a2 t) :
    Calls Try.prog 11 #[.slice a1 t.length c1, .slice a2 t.length c2] w fun e w' => e = .returned (.bool true) ∧ ∃ n, w' = w.drewN n := by
  rcases h1 with rfl | ⟨b1, o1, rfl, _, k1⟩
  · exact same_none a1 a2 c1 c2 w
  · rcases h2 with rfl | ⟨b2, o2, rfl, _, k2⟩
    · exact same_none _ a2 c1 c2 w
    · exact same_some b1 o1 c1 b2 o2 c2 t w hl k1 k2

end Go.Proofs.Qxb6603816a
