/-
  compareBytes (15): two rows of bytes, compared as texts are.
-/
import Derived.Test.Qxb6603716aLen
import Derived.Deep.QuietTactic
import Derived.BigQuiet
namespace Go.Proofs.Qxb6603716a
open Go.RowKit

/-- c says how the bytes x 0 .. x (la - 1) stand to y 0 .. y (lb - 1). -/
def Cmp (x : Nat → Nat) (la : Nat) (y : Nat → Nat) (lb : Nat) (c : Int) : Prop :=
  (c = -1 ∧ ((∃ i, i < la ∧ i < lb ∧ (∀ j, j < i → x j = y j) ∧ x i < y i) ∨ (la < lb ∧ ∀ j, j < la → x j = y j))) ∨
  (c = 1 ∧ ((∃ i, i < la ∧ i < lb ∧ (∀ j, j < i → x j = y j) ∧ y i < x i) ∨ (lb < la ∧ ∀ j, j < lb → x j = y j))) ∨
  (c = 0 ∧ la = lb ∧ ∀ j, j < la → x j = y j)

theorem drew2 (w : World) (a b : Nat) : ∃ n, (w.drewN a).drewN b = w.drewN n := ⟨a + b, by simp [World.drewN, Nat.add_assoc]⟩
theorem drew3 (w : World) (a b c : Nat) : ∃ n, ((w.drewN a).drewN b).drewN c = w.drewN n := ⟨a + b + c, by simp [World.drewN, Nat.add_assoc]⟩
theorem same_step {x y : Nat → Nat} {k : Nat} (h : ∀ j, j < k → x j = y j) (e : x k = y k) : Hid (∀ j, j < k + 1 → x j = y j) := fun j hj => by
  rcases Nat.eq_or_lt_of_le (Nat.le_of_lt_succ hj) with r | r
  · rw [r]; exact e
  · exact h j r

set_option maxHeartbeats 800000 in
theorem cmp_any (b1 o1 la ca b2 o2 lb cb : Nat) (x y : Nat → Nat) (w : World) (hx : ∀ j, j < la → w.cell? ⟨b1, o1 + j, none⟩ = some (.int .u8 (x j))) (hy : ∀ j, j < lb → w.cell? ⟨b2, o2 + j, none⟩ = some (.int .u8 (y j)))
    (hla : la / 1099511627776 = 0) (hlb : lb / 1099511627776 = 0) :
    Calls Try.prog 15 #[.slice (some ⟨b1, o1, none⟩) la ca, .slice (some ⟨b2, o2, none⟩) lb cb] w fun e w' => ∃ c, e = .returned (.int .i64 c) ∧ Cmp x la y lb c ∧ ∃ nq, w' = w.drewN nq := by
  have HX : Hid (∀ j, j < la → w.cell? ⟨b1, o1 + j, none⟩ = some (.int .u8 (x j))) := hx
  have HY : Hid (∀ j, j < lb → w.cell? ⟨b2, o2 + j, none⟩ = some (.int .u8 (y j))) := hy
  clear hx hy
  by_cases hlt : lb < la
  · go_enter Try.func15, Try.ntmps15
    go_wp2
    go_loopw [6] (fun i wr => ∃ k nq : Nat, k ≤ lb ∧ i = .int .i64 k ∧ Hid (∀ j, j < k → x j = y j) ∧ wr = w.drewN nq) (fun i _ => lb - (intOf i).toNat)
    case atStart => exact ⟨0, 0, Nat.zero_le _, rfl, fun j h => absurd h (Nat.not_lt_zero j), rfl⟩
    case round =>
      obtain ⟨k, nq, hk, rfl, HE, rfl⟩ := hrel
      by_cases hkl : k < lb
      · have gx := HX.out k (by omega)
        have gy := HY.out k (by omega)
        have q1 : (k : Int) < (la : Int) := by omega
        have q2 : (k : Int) < (lb : Int) := by omega
        by_cases l1 : x k < y k
        · go_wp2
          go_quiet (fail)
          go_wp2
          go_ret
          exact ⟨_, rfl, .inl ⟨rfl, .inl ⟨k, by omega, by omega, HE.out, l1⟩⟩, drew2 _ _ _⟩
        by_cases l2 : y k < x k
        · go_wp2
          go_quiet (fail)
          go_wp2
          go_quiet (fail)
          go_wp2
          go_ret
          exact ⟨_, rfl, .inr (.inl ⟨rfl, .inl ⟨k, by omega, by omega, HE.out, l2⟩⟩), drew3 _ _ _ _⟩
        · go_wp2
          go_quiet (fail)
          go_wp2
          go_quiet (fail)
          go_wp2
          go_roundw
          case rel => exact ⟨k + 1, _, by omega, by go_num, same_step HE.out (by omega), rfl⟩
          case measure => simp [intOf]; omega
      · have hke : k = lb := by omega
        subst hke
        go_wp2
        go_ret
        exact ⟨_, rfl, .inr (.inl ⟨rfl, .inr ⟨hlt, HE.out⟩⟩), _, rfl⟩
  · go_enter Try.func15, Try.ntmps15
    go_wp2
    go_loopw [6] (fun i wr => ∃ k nq : Nat, k ≤ la ∧ i = .int .i64 k ∧ Hid (∀ j, j < k → x j = y j) ∧ wr = w.drewN nq) (fun i _ => la - (intOf i).toNat)
    case atStart => exact ⟨0, 0, Nat.zero_le _, rfl, fun j h => absurd h (Nat.not_lt_zero j), rfl⟩
    case round =>
      obtain ⟨k, nq, hk, rfl, HE, rfl⟩ := hrel
      by_cases hkl : k < la
      · have gx := HX.out k (by omega)
        have gy := HY.out k (by omega)
        have q1 : (k : Int) < (la : Int) := by omega
        have q2 : (k : Int) < (lb : Int) := by omega
        by_cases l1 : x k < y k
        · go_wp2
          go_quiet (fail)
          go_wp2
          go_ret
          exact ⟨_, rfl, .inl ⟨rfl, .inl ⟨k, by omega, by omega, HE.out, l1⟩⟩, drew2 _ _ _⟩
        by_cases l2 : y k < x k
        · go_wp2
          go_quiet (fail)
          go_wp2
          go_quiet (fail)
          go_wp2
          go_ret
          exact ⟨_, rfl, .inr (.inl ⟨rfl, .inl ⟨k, by omega, by omega, HE.out, l2⟩⟩), drew3 _ _ _ _⟩
        · go_wp2
          go_quiet (fail)
          go_wp2
          go_quiet (fail)
          go_wp2
          go_roundw
          case rel => exact ⟨k + 1, _, by omega, by go_num, same_step HE.out (by omega), rfl⟩
          case measure => simp [intOf]; omega
      · have hke : k = la := by omega
        subst hke
        by_cases hl2 : k < lb
        · go_wp2
          go_ret
          exact ⟨_, rfl, .inl ⟨rfl, .inr ⟨hl2, HE.out⟩⟩, _, rfl⟩
        · go_wp2
          go_ret
          exact ⟨_, rfl, .inr (.inr ⟨rfl, by omega, HE.out⟩), _, rfl⟩

end Go.Proofs.Qxb6603716a
