/-
  DeepList (16): a new row of bytes, 'D d'.
-/
import Derived.Test.Qxb6603716aPut
namespace Go.Proofs.Qxb6603716a
open Go.RowKit

theorem Try.info5 : (Try.prog.info? 5).map (fun i => (i.zero, i.size, i.bytes)) = some (some (.int .u8 0), 1, 1) := by kernel_rfl

/-- The row holds a nest d deep. -/
def Deep (cur : Array Value) (d : Nat) : Prop := cur.size = Pl.sz d ∧ ∀ j, j < Pl.sz d → cur[j]? = some (.int .u8 (Pl.D d j))

theorem made {w : World} {B base n : Nat} {xs : List Value} (h : w.ownsRow base 5 1 (.slice (some ⟨B, 0, none⟩) n n) n xs) : ∃ cur, w.heap[B]? = some (.cells cur 5 (0, 0)) ∧ cur.size = n := by
  rcases h.2 with ⟨h', _⟩ | ⟨g, cap, cur, h', _, hg, _, _, hs, _⟩
  · simp at h'
  · simp only [Value.slice.injEq, Option.some.injEq, Addr.mk.injEq, and_true, true_and] at h'
    obtain ⟨rfl, rfl⟩ := h'
    exact ⟨cur, hg, by omega⟩

/-- In the middle of the writing: from place S - sz k on the row holds a nest k deep. -/
def Tail (cur : Array Value) (S k : Nat) : Prop := cur.size = S ∧ ∀ j, j < Pl.sz k → cur[S - Pl.sz k + j]? = some (.int .u8 (Pl.D k j))

theorem tail_start {cur : Array Value} {S : Nat} (hs : cur.size = S) (h0 : 1 ≤ S) : Tail (cur.setIfInBounds (S - 1) (.int .u8 192)) S 1 := by
  refine ⟨by simpa using hs, fun j hj => ?_⟩
  have e : Pl.sz 1 = 1 := rfl
  rw [e] at hj
  have e0 : j = 0 := by omega
  subst e0
  rw [e, Nat.add_zero, Array.getElem?_setIfInBounds_self_of_lt (by omega)]
  rfl
theorem tail_step {cur cur' : Array Value} {S m : Nat} (h : Tail cur S m) (hm : Pl.sz m + Pl.hl (Pl.sz m) ≤ S) (hH : Headed cur cur' (S - Pl.sz m - Pl.hl (Pl.sz m)) (Pl.sz m)) : Tail cur' S (m + 1) := by
  obtain ⟨h1, h2⟩ := h
  obtain ⟨g1, g2, g3⟩ := hH
  refine ⟨by omega, fun j hj => ?_⟩
  rw [Pl.sz_succ] at hj ⊢
  by_cases hlt : j < Pl.hl (Pl.sz m)
  · rw [Pl.D_head m j hlt, show S - (Pl.sz m + Pl.hl (Pl.sz m)) + j = S - Pl.sz m - Pl.hl (Pl.sz m) + j by omega]
    exact g2 j hlt
  · obtain ⟨i, rfl⟩ : ∃ i, j = Pl.hl (Pl.sz m) + i := ⟨j - Pl.hl (Pl.sz m), by omega⟩
    rw [Pl.D_tail m i, show S - (Pl.sz m + Pl.hl (Pl.sz m)) + (Pl.hl (Pl.sz m) + i) = S - Pl.sz m + i by omega, g3 _ (by omega)]
    exact h2 i (by omega)
theorem tail_end {cur : Array Value} {d : Nat} (h : Tail cur (Pl.sz d) d) : Deep cur d := by
  refine ⟨h.1, fun j hj => ?_⟩
  have := h.2 j hj
  rwa [Nat.sub_self, Nat.zero_add] at this

set_option maxRecDepth 100000 in
theorem deep_any (d : Nat) (h1 : 1 ≤ d) (h2 : d / 65537 = 0) (w : World) :
    Calls Try.prog 16 #[.int .i64 d] w fun e w' => e = .returned (.slice (some ⟨w.heap.size, 0, none⟩) (Pl.sz d) (Pl.sz d)) ∧ Below w.heap.size w w' ∧ w.heap.size < w'.heap.size ∧ ∃ cur, w'.heap[w.heap.size]? = some (.cells cur 5 (0, 0)) ∧ Deep cur d := by
  obtain ⟨i0, hi, hz0, hz1, hz2⟩ := info_parts Try.info5
  go_enter Try.func16, Try.ntmps16
  go_wp2_with fail
  go_loop [3, 10] (fun s i => ∃ k : Nat, k < d ∧ i = .int .i64 k ∧ s = .int .i64 (Pl.sz (k + 1))) (fun _ i => d - (intOf i).toNat)
  case atStart => exact ⟨0, by omega, rfl, rfl⟩
  case round =>
    obtain ⟨k, hk, rfl, rfl⟩ := hrel
    have b1 := Pl.sz_le (k + 1)
    have b2 := Pl.hl_le (Pl.sz (k + 1))
    have b3 := Pl.sz_ge (k + 1)
    by_cases hlt : k + 1 < d
    · go_wp2_with (go_at_call 17; refine (headerLen_any _ (by omega) _).mono ?_; rintro e w' ⟨rfl, rfl⟩)
      go_round
      case rel => exact ⟨k + 1, by omega, by go_num, by rw [Pl.sz_succ (k + 1)]; go_num⟩
      case measure => simp [intOf]; omega
    · have hkd : d = k + 1 := by omega
      subst hkd
      have b4 : Pl.sz (k + 1) / 1048576 = 0 := by omega
      have e1 : Pl.sz 1 = 1 := rfl
      have E1 : Hid (Pl.sz 1 = 1) := e1
      clear e1
      go_wp2_with (at_make; refine wpList_make_full _ rfl (.tmp 17) (.tmp 17) 24 rfl w.heap.size 5 i0 (.int .u8 0) 1 Try.underlying24 hi hz0 hz1 _ _ _ _ (Pl.sz (k + 1)) rfl rfl rfl rfl (by rw [hz2]; omega) (by unfold maxLen; omega) (Nat.le_refl _) ?_; intro w1 hown hgr; obtain ⟨cur, hrow, hcs⟩ := made hown; have W := Wrote.refl hrow; obtain ⟨v, hv⟩ := W.some (i := Pl.sz (k + 1) - 1) (by omega); have hz := W.free (Pl.sz (k + 1) - 1); clear hown hrow)
      go_loopw [5, 6] (fun q i wr => ∃ m : Nat, ∃ cur', 1 ≤ m ∧ m ≤ k + 1 ∧ q = .int .i64 ((Pl.sz (k + 1) : Int) - Pl.sz m) ∧ i = .int .i64 (Pl.sz m) ∧ Wrote w1 wr w.heap.size cur' ∧ Tail cur' (Pl.sz (k + 1)) m) (fun _ i _ => Pl.sz (k + 1) - (intOf i).toNat)
      case atStart => exact ⟨1, _, Nat.le_refl _, by omega, by rw [E1.out]; rfl, by rw [E1.out]; rfl, W.set (Pl.sz (k + 1) - 1) _, tail_start hcs (by omega)⟩
      case round =>
        obtain ⟨m, cur', hm1, hm2, rfl, rfl, hW, hT⟩ := hrel
        have c1 := Pl.sz_mono hm2
        have c2 := Pl.sz_mono hm1
        rw [E1.out] at c2
        have c3 := Pl.hl_le (Pl.sz m)
        have c5 := Pl.hl_pos (Pl.sz m)
        clear hv hz
        by_cases hlt : m < k + 1
        · have c4 : Pl.sz m + Pl.hl (Pl.sz m) ≤ Pl.sz (k + 1) := Pl.sz_mono (a := m + 1) hlt
          go_wp2_with (go_at_call 17; refine (headerLen_any _ (by omega) _).mono ?_; rintro e w' ⟨rfl, rfl⟩)
          refine (put_any w.heap.size _ _ (Pl.sz m) _ cur' _ (by omega) hW.here (by omega) (by rw [hT.1]; omega)).mono ?_
          rintro e w2 ⟨rfl, cur2, hW2, hH⟩
          have hT2 := tail_step hT c4 hH
          have hW3 := hW.trans hW2
          clear hW hW2 hH hT
          go_wp2
          go_roundw
          case rel => exact ⟨m + 1, cur2, by omega, by omega, by rw [Pl.sz_succ m]; go_num, by rw [Pl.sz_succ m]; go_num, hW3, hT2⟩
          case measure => simp [intOf]; omega
        · have hmk : m = k + 1 := by omega
          subst hmk
          go_wp2
          go_ret
          refine ⟨rfl, ((Below.refl _ w).grown hgr (Nat.le_refl _) (fun k h => by cases h)).trans (hW.below (Nat.le_refl _)), ?_, cur', hW.here, tail_end hT⟩
          exact lt_of_block hW.here

end Go.Proofs.Qxb6603716a
