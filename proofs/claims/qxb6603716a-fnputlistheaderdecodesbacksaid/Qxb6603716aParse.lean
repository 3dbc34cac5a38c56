/-
  parseListHeader (13): at cells that hold the header of N it reads (hl N, N, true).
-/
import Derived.Test.Qxb6603716aLen
import Derived.Laws.BitsAllLaws
namespace Go.Proofs.Qxb6603716a
open Go.RowKit

/-- A byte is laid behind a number. -/
theorem or_byte (t c : Nat) (hc : c < 256) (ht : t / 36028797018963968 = 0) : bits .or .u64 ((t : Int) * 256) (c : Int) = ((t * 256 + c : Nat) : Int) := by
  have e : ((t : Int) * 256) = ((t * 256 : Nat) : Int) := by omega
  rw [e, u64_or_nat (t * 256) c (by omega) (by omega)]
  have h := Nat.shiftLeft_add_eq_or_of_lt (show c < 2 ^ 8 by omega) t
  rw [Nat.shiftLeft_eq] at h
  rw [h]

set_option maxRecDepth 100000 in
theorem parse_small (b off len cap p c : Nat) (w : World) (hN : 192 ≤ c) (hN' : c ≤ 247) (hc : w.cell? ⟨b, off + p, none⟩ = some (.int .u8 (c : Int))) (hp : p < len) :
    Calls Try.prog 13 #[.slice (some ⟨b, off, none⟩) len cap, .int .i64 p] w fun e w' => e = .returned (.tuple #[.int .i64 1, .int .u64 ((c : Int) - 192), .bool true]) ∧ w' = w := by
  go_enter Try.func13, Try.ntmps13
  go_wp2
  go_ret3
  exact ⟨rfl, rfl⟩

set_option maxRecDepth 100000 in
theorem parse_big (b off len cap p N L c : Nat) (w : World) (hN : 56 ≤ N) (hn : N / 9223372036854775808 = 0) (HL : Hid (L = Pl.nb N))
    (hc0 : w.cell? ⟨b, off + p, none⟩ = some (.int .u8 (c : Int))) (hcL : 247 + L ≤ c) (hcL' : c ≤ 247 + L) (f : Nat → Nat) (hc : ∀ i, i < L → w.cell? ⟨b, off + (p + 1 + i), none⟩ = some (.int .u8 (f i))) (hf : ∀ i, f i < 256)
    (h0 : 1 ≤ f 0) (HF : Hid (∀ i, i < L → N / 256 ^ (L - (i + 1)) = N / 256 ^ (L - i) * 256 + f i))
    (hp : p + L < len) (hl : len / 1099511627776 = 0) :
    Calls Try.prog 13 #[.slice (some ⟨b, off, none⟩) len cap, .int .i64 p] w fun e w' => e = .returned (.tuple #[.int .i64 (1 + L), .int .u64 N, .bool true]) ∧ w' = w := by
  have h1 : 1 ≤ L := by rw [HL.out]; exact Pl.nb_pos N (by omega)
  have h8 : L ≤ 8 := by rw [HL.out]; exact Pl.nb_le N
  have hc1 : w.cell? ⟨b, off + (p + 1), none⟩ = some (.int .u8 (f 0)) := hc 0 h1
  have HC : Hid (∀ i, i < L → w.cell? ⟨b, off + (p + 1 + i), none⟩ = some (.int .u8 (f i))) := hc
  have hf0 := hf 0
  clear hc
  go_enter Try.func13, Try.ntmps13
  go_wp2
  go_loop [9, 10] (fun v i => ∃ t k : Nat, t ≤ N ∧ k ≤ L ∧ v = .int .u64 t ∧ i = .int .i64 k ∧ Hid (t = N / 256 ^ (L - k))) (fun _ i => L - (intOf i).toNat)
  case atStart => exact ⟨0, 0, Nat.zero_le _, Nat.zero_le _, rfl, rfl, (show 0 = N / 256 ^ (L - 0) by rw [HL.out]; exact (Pl.dec_start N (by omega)).symm)⟩
  case round =>
    obtain ⟨t, k, ht, hk, rfl, rfl, HT⟩ := hrel
    clear hc0 hc1
    by_cases hlt : k < L
    · have hck := HC.out k hlt
      have hfk := hf k
      have ht' : t / 36028797018963968 = 0 := by
        have := Pl.dec_small N k (by omega) (by rw [← HL.out]; exact hlt)
        rw [← HL.out, ← HT.out] at this
        omega
      have e := HF.out k hlt
      rw [← HT.out] at e
      have HE : Hid (N / 256 ^ (L - (k + 1)) = t * 256 + f k) := e
      clear e
      go_wp2
      go_round
      case rel => exact ⟨t * 256 + f k, k + 1, by rw [← HE.out]; exact Nat.div_le_self _ _, by omega, by rw [or_byte t (f k) hfk ht'], by go_num, HE.out.symm⟩
      case measure => simp [intOf]; omega
    · have hkL : k = L := by omega
      have e := HT.out
      rw [hkL, Nat.sub_self, Nat.pow_zero, Nat.div_one] at e
      subst e
      go_wp2
      go_ret3
      exact ⟨congrArg (fun z : Int => Ending.returned (.tuple #[.int .i64 z, .int .u64 t, .bool true])) (show 1 + ((c : Int) - 247) = 1 + (L : Int) by omega), rfl⟩

/-- parseListHeader at the header of N. -/
theorem parse_any (b off len cap p N : Nat) (w : World) (hn : N < 9223372036854775808) (hc : ∀ j, j < Pl.hl N → w.cell? ⟨b, off + (p + j), none⟩ = some (.int .u8 (Pl.hb N j))) (hp : p + Pl.hl N ≤ len) (hl : len < 1099511627776) :
    Calls Try.prog 13 #[.slice (some ⟨b, off, none⟩) len cap, .int .i64 p] w fun e w' => e = .returned (.tuple #[.int .i64 (Pl.hl N), .int .u64 N, .bool true]) ∧ w' = w := by
  have c0 := hc 0 (Pl.hl_pos N)
  rw [Nat.add_zero] at c0
  by_cases h : N < 56
  · have e := Pl.hl_small N h
    rw [Pl.hb_small N 0 h] at c0
    have r := parse_small b off len cap p (192 + N) w (by omega) (by omega) c0 (by omega)
    rw [e]
    rw [show (((192 + N : Nat) : Int) - 192) = (N : Int) by omega] at r
    exact r
  · have e := Pl.hl_big N (by omega)
    rw [Pl.hb_zero N (by omega)] at c0
    have r := parse_big b off len cap p N (Pl.nb N) (247 + Pl.nb N) w (by omega) (by omega) rfl c0 (by omega) (by omega) (fun i => Pl.hb N (i + 1))
      (fun i hi => by have := hc (i + 1) (by omega); rwa [show p + (i + 1) = p + 1 + i by omega] at this) (fun i => Pl.hb_lt N (i + 1)) (Pl.hb_lead N (by omega) hn)
      (fun i hi => Pl.dec_step N i (by omega) hi) (by omega) (by omega)
    rw [e]
    rw [show (1 + (Pl.nb N : Int)) = ((1 + Pl.nb N : Nat) : Int) by omega] at r
    exact r

end Go.Proofs.Qxb6603716a
