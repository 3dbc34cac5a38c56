/-
  cloneBytes (11) at a slice that is not nil; the two bounds on lengths (10, 14).
-/
import Derived.Test.Qxb6603716aPut
import Derived.Test.Qxb6603716aDeep
import Derived.Lib.SliceRun
namespace Go.Proofs.Qxb6603716a
open Go.RowKit

theorem zz10_no (a : Option Addr) (len cap : Nat) (n : Int) (w : World) (h : decide ((1048576 : Int) < (len : Int)) = true) :
    Calls Try.prog 10 #[.slice a len cap, .int .i64 n] w fun e w' => e = .returned (.bool false) ∧ w' = w := by
  go_enter Try.func10, Try.ntmps10
  go_wp2
  go_ret
  exact ⟨rfl, rfl⟩
theorem zz10_yes (a : Option Addr) (len cap : Nat) (n : Int) (w : World) (h : decide ((1048576 : Int) < (len : Int)) = false) (hl : len / 1048577 = 0) :
    Calls Try.prog 10 #[.slice a len cap, .int .i64 n] w fun e w' => e = .returned (.bool true) ∧ w' = w := by
  go_enter Try.func10, Try.ntmps10
  go_wp2
  go_ret
  exact ⟨rfl, rfl⟩

/-- The clone: a new row of as many bytes. (What it holds plays no part in our laws: it is written over.) -/
theorem clone_any (b off len cap : Nat) (z : Nat → Int) (w : World) (hl : len / 1048577 = 0) (hb : b < w.heap.size) (hc : ∀ i, i < len → w.cell? ⟨b, off + i, none⟩ = some (.int .u8 (z i))) :
    Calls Try.prog 11 #[.slice (some ⟨b, off, none⟩) len cap] w fun e w' => e = .returned (.slice (some ⟨w.heap.size, 0, none⟩) len len) ∧ Below w.heap.size w w' ∧ w.heap.size < w'.heap.size ∧ ∃ cur, w'.heap[w.heap.size]? = some (.cells cur 5 (0, 0)) ∧ cur.size = len := by
  obtain ⟨i0, hi, hz0, hz1, hz2⟩ := info_parts Try.info5
  have HC : Hid (∀ i, i < len → w.cell? ⟨b, off + i, none⟩ = some (.int .u8 (z i))) := hc
  clear hc
  have q24 : ∀ (w : World) (a : Option Addr) (n c n' c' : Nat), (binOp .eql 24 (.slice a n c) (.slice none n' c')).run Try.prog w = .ok (.bool a.isNone) w := fun w a n c n' c' => Lib.run_eql_slice_nil w _ _ a n c n' c' Try.underlying24
  go_enter Try.func11, Try.ntmps11
  go_wp2_with (at_make; refine wpList_make_full _ rfl (.tmp 8) (.tmp 8) 24 rfl w.heap.size 5 i0 (.int .u8 0) 1 Try.underlying24 hi hz0 hz1 _ _ _ _ len rfl rfl rfl rfl (by rw [hz2]; omega) (by unfold maxLen; omega) (Nat.le_refl _) ?_; intro w1 hown hgr; obtain ⟨cur, hrow, hcs⟩ := made hown; have W := Wrote.refl hrow; clear hown hrow)
  go_loopw [4] (fun i wr => ∃ k : Nat, ∃ cur', k ≤ len ∧ i = .int .i64 k ∧ Wrote w1 wr w.heap.size cur' ∧ cur'.size = len) (fun i _ => len - (intOf i).toNat)
  case atStart => exact ⟨0, cur, Nat.zero_le _, rfl, W, hcs⟩
  case round =>
    obtain ⟨k, cur', hk, rfl, hW, hs⟩ := hrel
    by_cases hlt : k < len
    · have g1 : wr.cell? ⟨b, off + k, none⟩ = some (.int .u8 (z k)) := by
        rw [← HC.out k hlt]
        exact World.cell?_of_block (w := w) ((hW.other b (by omega)).trans (hgr.block b hb (by simp)))
      obtain ⟨v, g2⟩ := hW.some (i := k) (by omega)
      have g3 := hW.free k
      go_wp2
      go_roundw
      case rel => exact ⟨k + 1, _, by omega, by go_num, hW.set k _, by simpa using hs⟩
      case measure => simp [intOf]; omega
    · go_wp2
      go_ret
      refine ⟨rfl, ((Below.refl _ w).grown hgr (Nat.le_refl _) (fun k h => by cases h)).trans (hW.below (Nat.le_refl _)), lt_of_block hW.here, cur', hW.here, hs⟩

end Go.Proofs.Qxb6603716a
