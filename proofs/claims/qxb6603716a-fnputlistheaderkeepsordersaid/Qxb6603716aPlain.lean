/-
  THE PLAIN MATHEMATICS OF SEAT b6603716a: no Go, no program. How many bytes a number takes ('nb'), a list header's length ('hl') and its bytes ('hb'), the nest's sizes ('sz') and bytes ('D').
-/
namespace Go.Proofs.Qxb6603716a.Pl

/-- The fewest bytes that hold n. -/
def nb (n : Nat) : Nat :=
  if n = 0 then 0 else if n < 256 then 1 else if n < 65536 then 2 else if n < 16777216 then 3 else if n < 4294967296 then 4
  else if n < 1099511627776 then 5 else if n < 281474976710656 then 6 else if n < 72057594037927936 then 7 else 8
/-- A list header's length. -/
def hl (n : Nat) : Nat := if n < 56 then 1 else 1 + nb n

theorem nb_zero : nb 0 = 0 := rfl
theorem nb1 (n : Nat) (h : 1 ≤ n) (g : n < 256) : nb n = 1 := by unfold nb; rw [if_neg (by omega), if_pos (by omega)]
theorem nb2 (n : Nat) (h : 256 ≤ n) (g : n < 65536) : nb n = 2 := by unfold nb; rw [if_neg (by omega), if_neg (by omega), if_pos (by omega)]
theorem nb3 (n : Nat) (h : 65536 ≤ n) (g : n < 16777216) : nb n = 3 := by unfold nb; rw [if_neg (by omega), if_neg (by omega), if_neg (by omega), if_pos (by omega)]
theorem nb4 (n : Nat) (h : 16777216 ≤ n) (g : n < 4294967296) : nb n = 4 := by unfold nb; rw [if_neg (by omega), if_neg (by omega), if_neg (by omega), if_neg (by omega), if_pos (by omega)]
theorem nb5 (n : Nat) (h : 4294967296 ≤ n) (g : n < 1099511627776) : nb n = 5 := by unfold nb; rw [if_neg (by omega), if_neg (by omega), if_neg (by omega), if_neg (by omega), if_neg (by omega), if_pos (by omega)]
theorem nb6 (n : Nat) (h : 1099511627776 ≤ n) (g : n < 281474976710656) : nb n = 6 := by unfold nb; rw [if_neg (by omega), if_neg (by omega), if_neg (by omega), if_neg (by omega), if_neg (by omega), if_neg (by omega), if_pos (by omega)]
theorem nb7 (n : Nat) (h : 281474976710656 ≤ n) (g : n < 72057594037927936) : nb n = 7 := by unfold nb; rw [if_neg (by omega), if_neg (by omega), if_neg (by omega), if_neg (by omega), if_neg (by omega), if_neg (by omega), if_neg (by omega), if_pos (by omega)]
theorem nb8 (n : Nat) (h : 72057594037927936 ≤ n) : nb n = 8 := by unfold nb; rw [if_neg (by omega), if_neg (by omega), if_neg (by omega), if_neg (by omega), if_neg (by omega), if_neg (by omega), if_neg (by omega), if_neg (by omega)]
theorem nb_step (n : Nat) (h : 0 < n) (hb : n < 9223372036854775808) : nb n = nb (n / 256) + 1 := by
  rcases (show n < 256 ∨ (256 ≤ n ∧ n < 65536) ∨ (65536 ≤ n ∧ n < 16777216) ∨ (16777216 ≤ n ∧ n < 4294967296) ∨ (4294967296 ≤ n ∧ n < 1099511627776) ∨ (1099511627776 ≤ n ∧ n < 281474976710656) ∨ (281474976710656 ≤ n ∧ n < 72057594037927936) ∨ 72057594037927936 ≤ n from by omega) with q | ⟨p, q⟩ | ⟨p, q⟩ | ⟨p, q⟩ | ⟨p, q⟩ | ⟨p, q⟩ | ⟨p, q⟩ | p
  · rw [nb1 n (by omega) q, show n / 256 = 0 by omega, nb_zero]
  · rw [nb2 n p q, nb1 (n / 256) (by omega) (by omega)]
  · rw [nb3 n p q, nb2 (n / 256) (by omega) (by omega)]
  · rw [nb4 n p q, nb3 (n / 256) (by omega) (by omega)]
  · rw [nb5 n p q, nb4 (n / 256) (by omega) (by omega)]
  · rw [nb6 n p q, nb5 (n / 256) (by omega) (by omega)]
  · rw [nb7 n p q, nb6 (n / 256) (by omega) (by omega)]
  · rw [nb8 n p, nb7 (n / 256) (by omega) (by omega)]
theorem nb_le (n : Nat) : nb n ≤ 8 := by
  unfold nb
  repeat' split
  all_goals omega
theorem nb_mono (k : Nat) : ∀ a b : Nat, a ≤ b → b < 9223372036854775808 → nb b ≤ k → nb a ≤ nb b := by
  induction k with
  | zero =>
    intro a b h g hb
    rcases Nat.eq_zero_or_pos b with h0 | h0
    · rw [show a = b by omega]; exact Nat.le_refl _
    · have := nb_step b h0 g; omega
  | succ k ih =>
    intro a b h g hb
    rcases Nat.eq_zero_or_pos a with h0 | h0
    · rw [h0, nb_zero]; omega
    · have e1 := nb_step a h0 (by omega)
      have e2 := nb_step b (by omega) g
      have := ih (a / 256) (b / 256) (by omega) (by omega) (by omega)
      omega
theorem nb_pos (n : Nat) (h : 0 < n) : 1 ≤ nb n := by
  unfold nb
  repeat' split
  all_goals omega
theorem hl_pos (n : Nat) : 1 ≤ hl n := by unfold hl; split <;> omega
theorem hl_le (n : Nat) : hl n ≤ 9 := by unfold hl; have := nb_le n; split <;> omega
theorem hl_small (n : Nat) (h : n < 56) : hl n = 1 := by unfold hl; rw [if_pos h]
theorem hl_big (n : Nat) (h : 56 ≤ n) : hl n = 1 + nb n := by unfold hl; rw [if_neg (by omega)]
theorem hl_two (n : Nat) (h : 56 ≤ n) : 2 ≤ hl n := by have := nb_pos n (by omega); rw [hl_big n h]; omega

theorem pow_pos' (k : Nat) : 0 < 256 ^ k := Nat.pow_pos (by decide)

/-- n is below 256 to its number of bytes, and not below 256 to one less. -/
theorem nb_range (m : Nat) : ∀ n, n < 9223372036854775808 → nb n = m → n < 256 ^ m ∧ (0 < n → 256 ^ (m - 1) ≤ n) := by
  induction m with
  | zero =>
    intro n hb hn
    by_cases h : 0 < n
    · have := nb_pos n h; omega
    · exact ⟨by simp; omega, fun h' => absurd h' h⟩
  | succ m ih =>
    intro n hb hn
    have h0 : 0 < n := by
      rcases Nat.eq_zero_or_pos n with h | h
      · subst h; rw [nb_zero] at hn; omega
      · exact h
    have hs := nb_step n h0 hb
    obtain ⟨i1, i2⟩ := ih (n / 256) (by omega) (by omega)
    refine ⟨?_, fun _ => ?_⟩
    · rw [Nat.pow_succ]
      omega
    · show 256 ^ m ≤ n
      cases m with
      | zero => simp; omega
      | succ k =>
        have hq : 0 < n / 256 := by
          rcases Nat.eq_zero_or_pos (n / 256) with h | h
          · rw [h, nb_zero] at hs; omega
          · exact h
        have := i2 hq
        simp only [Nat.add_sub_cancel] at this
        rw [Nat.pow_succ]
        omega

theorem nb_lt_pow (n : Nat) (h : n < 9223372036854775808) : n < 256 ^ nb n := (nb_range (nb n) n h rfl).1
theorem nb_pow_le (n : Nat) (h : n < 9223372036854775808) (h0 : 0 < n) : 256 ^ (nb n - 1) ≤ n := (nb_range (nb n) n h rfl).2 h0

/-- Byte j of the header of a list whose content is n bytes. -/
def hb (n j : Nat) : Nat := if n < 56 then 192 + n else if j = 0 then 247 + nb n else n / 256 ^ (nb n - j) % 256

theorem hb_lt (n j : Nat) : hb n j < 256 := by
  unfold hb
  have := nb_le n
  split
  · omega
  · split
    · omega
    · exact Nat.mod_lt _ (by decide)
theorem hb_small (n j : Nat) (h : n < 56) : hb n j = 192 + n := by unfold hb; rw [if_pos h]
theorem hb_zero (n : Nat) (h : 56 ≤ n) : hb n 0 = 247 + nb n := by unfold hb; rw [if_neg (by omega), if_pos rfl]
theorem hb_succ (n j : Nat) (h : 56 ≤ n) : hb n (j + 1) = n / 256 ^ (nb n - (j + 1)) % 256 := by unfold hb; rw [if_neg (by omega), if_neg (by omega)]

/-- One byte more off a number. -/
theorem div_step (n k : Nat) : n / 256 ^ k = n / 256 ^ (k + 1) * 256 + n / 256 ^ k % 256 := by
  rw [Nat.pow_succ, ← Nat.div_div_eq_div_mul]
  omega

/-- The leading byte of a long form is not nought. -/
theorem hb_lead (n : Nat) (h : 56 ≤ n) (hn : n < 9223372036854775808) : 1 ≤ hb n 1 := by
  rw [show (1 : Nat) = 0 + 1 from rfl, hb_succ n 0 h]
  have h1 := nb_lt_pow n hn
  have h2 := nb_pow_le n hn (by omega)
  have h3 := nb_pos n (by omega)
  have p := pow_pos' (nb n - 1)
  have h4 : n / 256 ^ (nb n - 1) < 256 := by
    rw [Nat.div_lt_iff_lt_mul p, Nat.mul_comm, ← Nat.pow_succ]
    rwa [show (nb n - 1).succ = nb n by omega]
  have h5 : 1 ≤ n / 256 ^ (nb n - 1) := by rw [Nat.le_div_iff_mul_le p]; omega
  show 0 + 1 ≤ n / 256 ^ (nb n - 1) % 256
  rw [Nat.mod_eq_of_lt h4]
  omega

/-- What the decoder has after i bytes of the long form: the number without its last bytes. -/
theorem dec_start (n : Nat) (hn : n < 9223372036854775808) : n / 256 ^ nb n = 0 := Nat.div_eq_of_lt (nb_lt_pow n hn)
theorem dec_step (n i : Nat) (h : 56 ≤ n) (hi : i < nb n) : n / 256 ^ (nb n - (i + 1)) = n / 256 ^ (nb n - i) * 256 + hb n (i + 1) := by
  rw [hb_succ n i h]
  have e : nb n - i = (nb n - (i + 1)) + 1 := by omega
  rw [e]
  exact div_step n _
theorem dec_le (n i : Nat) : n / 256 ^ (nb n - i) ≤ n := Nat.div_le_self _ _
/-- Where a byte is still to come, what is there is small. -/
theorem dec_small (n i : Nat) (hn : n < 9223372036854775808) (hi : i < nb n) : n / 256 ^ (nb n - i) < 36028797018963968 := by
  have e : nb n - i = (nb n - i - 1) + 1 := by omega
  rw [e, Nat.pow_succ, Nat.mul_comm, ← Nat.div_div_eq_div_mul]
  have := Nat.div_le_self (n / 256) (256 ^ (nb n - i - 1))
  omega

/-! ### THE ORDER -/
/-- Two long forms of one length that agree on their first i+1 bytes. -/
theorem agree (a b : Nat) (ha : 56 ≤ a) (hb' : 56 ≤ b) (ga : a < 9223372036854775808) (gb : b < 9223372036854775808) (hL : nb a = nb b) :
    ∀ i, i ≤ nb a → (∀ j, j < i + 1 → hb a j = hb b j) → a / 256 ^ (nb a - i) = b / 256 ^ (nb a - i) := by
  intro i
  induction i with
  | zero =>
    intro _ _
    show a / 256 ^ nb a = b / 256 ^ nb a
    rw [dec_start a ga, hL, dec_start b gb]
  | succ i ih =>
    intro hi hj
    have e := ih (by omega) (fun j h => hj j (by omega))
    have e1 := dec_step a i ha (by omega)
    have e2 := dec_step b i hb' (by omega)
    rw [← hL] at e2
    rw [e1, e2, e, hj (i + 1) (by omega)]

/-- a below b: at no place where the headers first part does a's byte stand above b's; and they do part. -/
theorem order (a b : Nat) (ga : a < 9223372036854775808) (gb : b < 9223372036854775808) (hab : a < b) (i : Nat) (hi : i < hl a) (hi' : i < hl b) (he : ∀ j, j < i → hb a j = hb b j) : ¬ hb b i < hb a i := by
  intro hlt
  by_cases ha : a < 56
  · have h0 : i = 0 := by rw [hl_small a ha] at hi; omega
    subst h0
    rw [hb_small a 0 ha] at hlt
    by_cases hb' : b < 56
    · rw [hb_small b 0 hb'] at hlt; omega
    · rw [hb_zero b (by omega)] at hlt; omega
  · have hb' : 56 ≤ b := by omega
    have ha' : 56 ≤ a := by omega
    have hm : nb a ≤ nb b := nb_mono 8 a b (by omega) gb (nb_le b)
    cases i with
    | zero => rw [hb_zero a ha', hb_zero b hb'] at hlt; omega
    | succ i =>
      have h0 := he 0 (by omega)
      rw [hb_zero a ha', hb_zero b hb'] at h0
      have hL : nb a = nb b := by omega
      rw [hl_big a ha'] at hi
      have e := agree a b ha' hb' ga gb hL i (by omega) (fun j h => he j (by omega))
      have e1 := dec_step a i ha' (by omega)
      have e2 := dec_step b i hb' (by omega)
      rw [← hL] at e2
      have hle : a / 256 ^ (nb a - (i + 1)) ≤ b / 256 ^ (nb a - (i + 1)) := Nat.div_le_div_right (by omega)
      rw [e1, e2, e] at hle
      omega
theorem differ (a b : Nat) (ga : a < 9223372036854775808) (gb : b < 9223372036854775808) (hl1 : hl a ≤ hl b) (he : ∀ j, j < hl a → hb a j = hb b j) : a = b := by
  have p0 := he 0 (hl_pos a)
  by_cases ha : a < 56
  · rw [hb_small a 0 ha] at p0
    by_cases hb' : b < 56
    · rw [hb_small b 0 hb'] at p0; omega
    · rw [hb_zero b (by omega)] at p0
      have := nb_pos b (by omega)
      omega
  · have ha' : 56 ≤ a := by omega
    have hb' : 56 ≤ b := by
      rcases Nat.lt_or_ge b 56 with h | h
      · rw [hl_small b h] at hl1
        have := hl_two a ha'
        omega
      · exact h
    rw [hb_zero a ha', hb_zero b hb'] at p0
    have hL : nb a = nb b := by omega
    have e := agree a b ha' hb' ga gb hL (nb a) (Nat.le_refl _) (fun j h => he j (by rw [hl_big a ha']; omega))
    simpa using e

/-! ### THE NEST -/
/-- The size of a nest k deep. -/
def sz : Nat → Nat | 0 => 0 | k + 1 => sz k + hl (sz k)
/-- Byte j of a nest k deep. -/
def D : Nat → Nat → Nat | 0, _ => 0 | k + 1, j => if j < hl (sz k) then hb (sz k) j else D k (j - hl (sz k))

theorem sz_succ (k : Nat) : sz (k + 1) = sz k + hl (sz k) := rfl
theorem sz_lt (k : Nat) : sz k < sz (k + 1) := by have := hl_pos (sz k); rw [sz_succ]; omega
theorem sz_le (k : Nat) : sz k ≤ 9 * k := by
  induction k with
  | zero => exact Nat.le_refl _
  | succ k ih => have := hl_le (sz k); rw [sz_succ]; omega
theorem sz_ge (k : Nat) : k ≤ sz k := by
  induction k with
  | zero => exact Nat.le_refl _
  | succ k ih => have := hl_pos (sz k); rw [sz_succ]; omega
theorem sz_mono {a b : Nat} (h : a ≤ b) : sz a ≤ sz b := by
  induction b with
  | zero => rw [show a = 0 by omega]; exact Nat.le_refl _
  | succ b ih =>
    rcases Nat.eq_or_lt_of_le h with h | h
    · rw [h]; exact Nat.le_refl _
    · have := ih (by omega); have := sz_lt b; omega
theorem sz_strict {a b : Nat} (h : a < b) : sz a < sz b := Nat.lt_of_lt_of_le (sz_lt a) (sz_mono h)
theorem D_head (k j : Nat) (h : j < hl (sz k)) : D (k + 1) j = hb (sz k) j := by show (if _ then _ else _) = _; rw [if_pos h]
theorem D_tail (k j : Nat) : D (k + 1) (hl (sz k) + j) = D k j := by show (if _ then _ else _) = _; rw [if_neg (by omega), Nat.add_sub_cancel_left]
theorem D_lt (k j : Nat) : D k j < 256 := by
  induction k generalizing j with
  | zero => show 0 < 256; decide
  | succ k ih =>
    show (if _ then _ else _) < 256
    split
    · exact hb_lt _ _
    · exact ih _

end Go.Proofs.Qxb6603716a.Pl
