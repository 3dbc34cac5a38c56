/-
  headerLen (17), ZZHeaderLen (8) and the table headerLenByThresholds (9): what each computes.
-/
import Derived.Test.Qxb6603716aRows
import Derived.Test.Qxb6603716aPlain
import Derived.WalkKit
namespace Go.Proofs.Qxb6603716a
open Go.RowKit

theorem ret_int {k : IntKind} {a b : Int} (h : a = b) : Ending.returned (.int k a) = .returned (.int k b) := by rw [h]

theorem headerLen_small (n : Int) (h : n < 56) (w : World) :
    Calls Try.prog 17 #[.int .i64 n] w fun e w' => e = .returned (.int .i64 1) ∧ w' = w := by
  go_enter Try.func17, Try.ntmps17
  go_wp2
  go_ret
  exact ⟨rfl, rfl⟩

theorem headerLen_big (n : Nat) (h : 56 ≤ n) (hn : n < 9223372036854775808) (w : World) :
    Calls Try.prog 17 #[.int .i64 n] w fun e w' => e = .returned (.int .i64 (Pl.hl n)) ∧ w' = w := by
  go_enter Try.func17, Try.ntmps17
  go_wp2
  go_loop [3, 4] (fun c s => ∃ t m : Nat, t ≤ n ∧ m ≤ 8 ∧ s = .int .i64 t ∧ c = .int .i64 ((m : Int) + 1) ∧ Hid (m + Pl.nb t = Pl.nb n)) (fun _ s => (intOf s).toNat)
  case atStart => exact ⟨n, 0, Nat.le_refl _, by omega, rfl, rfl, Nat.zero_add _⟩
  case round =>
    obtain ⟨t, m, ht, hm, rfl, rfl, H⟩ := hrel
    go_wp2
    · have hs := Pl.nb_step t (by omega) (by omega)
      have hle := Pl.nb_le n
      have H' := H.out
      go_round
      case rel => exact ⟨t / 256, m + 1, by omega, by omega, by go_num, by go_num, (by omega : m + 1 + Pl.nb (t / 256) = Pl.nb n)⟩
      case measure => simp [intOf]; omega
    · have ht0 : t = 0 := by omega
      have H' := H.out
      rw [ht0, Pl.nb_zero] at H'
      go_ret
      refine ⟨ret_int ?_, rfl⟩
      rw [Pl.hl_big n h]
      omega

/-- headerLen at every int that is not negative. -/
theorem headerLen_any (n : Nat) (hn : n < 9223372036854775808) (w : World) :
    Calls Try.prog 17 #[.int .i64 n] w fun e w' => e = .returned (.int .i64 (Pl.hl n)) ∧ w' = w := by
  by_cases h : n < 56
  · rw [Pl.hl_small n h]
    exact headerLen_small n (by omega) w
  · exact headerLen_big n (by omega) hn w

theorem zzLen_small (n : Int) (h : n < 56) (w : World) :
    Calls Try.prog 8 #[.int .i64 n] w fun e w' => e = .returned (.int .i64 1) ∧ w' = w := by
  go_enter Try.func8, Try.ntmps8
  go_wp2_with (go_at_call 17; refine (headerLen_small _ h _).mono ?_; rintro e w' ⟨rfl, rfl⟩)
  go_ret
  exact ⟨rfl, rfl⟩

theorem zzLen_any (n : Nat) (hn : n < 9223372036854775808) (w : World) :
    Calls Try.prog 8 #[.int .i64 n] w fun e w' => e = .returned (.int .i64 (Pl.hl n)) ∧ w' = w := by
  go_enter Try.func8, Try.ntmps8
  go_wp2_with (go_at_call 17; refine (headerLen_any n hn _).mono ?_; rintro e w' ⟨rfl, rfl⟩)
  go_ret
  exact ⟨rfl, rfl⟩

end Go.Proofs.Qxb6603716a
