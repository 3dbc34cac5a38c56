/-
  Wire names: their label starts; zzb1ValidWire (16).
-/
import Derived.Test.Qxb6603816aMem
namespace Go.Proofs.Qxb6603816a
open Go.RowKit

/-- Byte i of a string. -/
def byt (s : ByteArray) (i : Nat) : Nat := if h : i < s.size then s[i].toNat else 0
theorem byt_get {s : ByteArray} {i : Nat} (h : i < s.size) : s[i].toNat = byt s i := by unfold byt; rw [dif_pos h]
theorem byt_lt (s : ByteArray) (i : Nat) : byt s i < 256 := by
  unfold byt
  split
  · exact UInt8.toNat_lt _
  · omega
/-- Where label j begins: its length's place. -/
def P (s : ByteArray) : Nat → Nat
  | 0 => 0
  | j + 1 => P s j + 1 + byt s (P s j)
theorem P_succ (s : ByteArray) (j : Nat) : P s (j + 1) = P s j + 1 + byt s (P s j) := rfl

/-- A valid wire of m labels. -/
structure Wire (s : ByteArray) (m : Nat) : Prop where
  size : s.size ≤ 255
  lab : ∀ j, j < m → 1 ≤ byt s (P s j) ∧ P s j + 1 + byt s (P s j) < s.size
  fin : (s.size = 0 ∧ m = 0) ∨ (P s m + 1 = s.size ∧ byt s (P s m) = 0)

/-- What zzb1ValidWire says. -/
def OkW (s : ByteArray) (v : Value) : Prop := v = .bool false ∨ (v = .bool true ∧ ∃ m, Wire s m)

set_option maxRecDepth 100000 in
theorem valid_any (s : ByteArray) (w : World) (hs : s.size / 1048577 = 0) :
    Calls Try.prog 16 #[.string s] w fun e w' => ∃ v, e = .returned v ∧ w' = w ∧ OkW s v := by
  by_cases h0 : s.size = 0
  · have d0 : ((s.size : Int) == 0) = true := beq_iff_eq.2 (by omega)
    have W := hide (show Wire s 0 from ⟨by omega, fun j hj => absurd hj (Nat.not_lt_zero j), .inl ⟨h0, rfl⟩⟩)
    clear h0
    go_enter Try.func16, Try.ntmps16
    go_wp2
    go_ret
    exact ⟨_, rfl, rfl, .inr ⟨rfl, 0, W.out⟩⟩
  have d0 : ((s.size : Int) == 0) = false := beq_eq_false_iff_ne.2 (by omega)
  by_cases h255 : 255 < s.size
  · have d1 : decide ((255 : Int) < (s.size : Int)) = true := decide_eq_true (by omega)
    clear h0 h255
    go_enter Try.func16, Try.ntmps16
    go_wp2
    go_ret
    exact ⟨_, rfl, rfl, .inl rfl⟩
  have d1 : decide ((255 : Int) < (s.size : Int)) = false := decide_eq_false (by omega)
  have h1 : 1 ≤ s.size := by omega
  have hz : s.size / 256 = 0 := by omega
  clear h0 h255 hs
  go_enter Try.func16, Try.ntmps16
  go_wp2
  go_loop [3] (fun i => ∃ k j : Nat, k < s.size ∧ i = .int .i64 k ∧ Hid (k = P s j) ∧ Hid (∀ j', j' < j → 1 ≤ byt s (P s j') ∧ P s j' + 1 + byt s (P s j') < s.size)) (fun i => s.size - (intOf i).toNat)
  case atStart => exact ⟨0, 0, by omega, rfl, rfl, fun j' hj => absurd hj (Nat.not_lt_zero j')⟩
  case round =>
    obtain ⟨k, j, hk, rfl, HK, HA⟩ := hrel
    obtain ⟨c, hc⟩ : ∃ c, s[k].toNat = c := ⟨_, rfl⟩
    have hcb : c = byt s (P s j) := by rw [← hc, byt_get hk, HK.out]
    have hc2 : c < 256 := by rw [hcb]; exact byt_lt _ _
    have HCB := hide hcb
    clear hcb
    by_cases hc0 : c = 0
    · have d2 : ((c : Int) == 0) = true := beq_iff_eq.2 (by omega)
      by_cases hke : k + 1 = s.size
      · have d3 : ((k : Int) == (s.size : Int) - 1) = true := beq_iff_eq.2 (by omega)
        have W := hide (show Wire s j from ⟨by omega, HA.out, .inr ⟨by rw [← HK.out]; exact hke, by rw [← HCB.out]; exact hc0⟩⟩)
        clear hc0 hke
        go_wp2
        go_ret
        exact ⟨_, rfl, rfl, .inr ⟨rfl, j, W.out⟩⟩
      · have d3 : ((k : Int) == (s.size : Int) - 1) = false := beq_eq_false_iff_ne.2 (by omega)
        clear hc0 hke
        go_wp2
        go_ret
        exact ⟨_, rfl, rfl, .inl rfl⟩
    · have d2 : ((c : Int) == 0) = false := beq_eq_false_iff_ne.2 (by omega)
      by_cases hge : s.size ≤ k + 1 + c
      · have d3 : decide ((s.size : Int) ≤ (k : Int) + 1 + (c : Int)) = true := decide_eq_true (by omega)
        clear hc0 hge
        go_wp2
        go_ret
        exact ⟨_, rfl, rfl, .inl rfl⟩
      · have d3 : decide ((s.size : Int) ≤ (k : Int) + 1 + (c : Int)) = false := decide_eq_false (by omega)
        have HK1 : Hid (k + (1 + c) = P s (j + 1)) := by
          show _ = _
          rw [P_succ, ← HK.out, HK.out, ← HCB.out, ← HK.out]
          omega
        have HA1 : Hid (∀ j', j' < j + 1 → 1 ≤ byt s (P s j') ∧ P s j' + 1 + byt s (P s j') < s.size) := fun j' hj => by
          rcases Nat.eq_or_lt_of_le (Nat.le_of_lt_succ hj) with r | r
          · rw [r, ← HCB.out, ← HK.out]; omega
          · exact HA.out j' r
        have hlt : k + (1 + c) < s.size := by omega
        clear hc0 hge
        go_wp2
        go_round
        case rel => exact ⟨k + (1 + c), j + 1, hlt, by go_num, HK1, HA1⟩
        case measure => simp [intOf]; omega

end Go.Proofs.Qxb6603816a
