/-
  putListHeader (18), ZZPutListHeader (12): the header's bytes are written into a row of bytes of the call's own; nothing else turns.
-/
import Derived.Test.Qxb6603716aLen
namespace Go.Proofs.Qxb6603716a
open Go.RowKit

/-- w' is w but for block b, which is a row of bytes, now 'cur'. -/
structure Wrote (w w' : World) (b : Nat) (cur : Array Value) : Prop where
  os : w'.os = w.os
  tape : w'.tape = w.tape
  output : w'.output = w.output
  size : w'.heap.size = w.heap.size
  here : w'.heap[b]? = some (.cells cur 5 (0, 0))
  other : ∀ k, k ≠ b → w'.heap[k]? = w.heap[k]?

theorem Wrote.refl {w : World} {b : Nat} {cur : Array Value} (h : w.heap[b]? = some (.cells cur 5 (0, 0))) : Wrote w w b cur := ⟨rfl, rfl, rfl, rfl, h, fun _ _ => rfl⟩
theorem Wrote.set {w w' : World} {b : Nat} {cur : Array Value} (h : Wrote w w' b cur) (i : Nat) (v : Value) : Wrote w (w'.setCell ⟨b, i, none⟩ v) b (cur.setIfInBounds i v) :=
  ⟨h.os, h.tape, h.output, by simpa [World.setCell] using h.size, heap_setCell_same w' b i cur 5 v h.here, fun k hk => (heap_setCell_other w' ⟨b, i, none⟩ k v hk).trans (h.other k hk)⟩
theorem Wrote.drewN {w w' : World} {b : Nat} {cur : Array Value} (h : Wrote w w' b cur) : Wrote w w'.drew b cur := ⟨h.os, h.tape, h.output, h.size, h.here, h.other⟩
theorem Wrote.trans {a w w' : World} {b : Nat} {c cur : Array Value} (g : Wrote a w b c) (h : Wrote w w' b cur) : Wrote a w' b cur :=
  ⟨h.os.trans g.os, h.tape.trans g.tape, h.output.trans g.output, h.size.trans g.size, h.here, fun k hk => (h.other k hk).trans (g.other k hk)⟩
theorem Wrote.cell {w w' : World} {b : Nat} {cur : Array Value} (h : Wrote w w' b cur) (i : Nat) : w'.cell? ⟨b, i, none⟩ = cur[i]? := cell_of_row w' b i cur 5 (0, 0) h.here
theorem Wrote.free {w w' : World} {b : Nat} {cur : Array Value} (h : Wrote w w' b cur) (i : Nat) : w'.frozen? ⟨b, i, none⟩ = false := frozen_of_row w' b i cur 5 h.here
theorem Wrote.below {w w' : World} {b B : Nat} {cur : Array Value} (h : Wrote w w' b cur) (hB : B ≤ b) : Below B w w' := ⟨h.os, h.tape, h.output, by rw [h.size]; exact Nat.le_refl _, fun k hk => h.other k (by omega)⟩
theorem Wrote.some {w w' : World} {b : Nat} {cur : Array Value} (h : Wrote w w' b cur) {i : Nat} (hi : i < cur.size) : ∃ v, w'.cell? ⟨b, i, none⟩ = some v := ⟨cur[i], by rw [h.cell, Array.getElem?_eq_getElem hi]⟩

/-- The row as the header leaves it. -/
def Headed (cur cur' : Array Value) (off N : Nat) : Prop :=
  cur'.size = cur.size ∧ (∀ j, j < Pl.hl N → cur'[off + j]? = some (.int .u8 (Pl.hb N j))) ∧ ∀ i, i < off ∨ off + Pl.hl N ≤ i → cur'[i]? = cur[i]?

theorem headed_small {cur : Array Value} {off N : Nat} (hN : N < 56) (hf : off < cur.size) : Headed cur (cur.setIfInBounds off (.int .u8 (192 + (N : Int)))) off N := by
  refine ⟨by simp, fun j hj => ?_, fun i hi => ?_⟩
  · rw [Pl.hl_small N hN] at hj
    rw [show off + j = off by omega, Pl.hb_small N j hN, Array.getElem?_setIfInBounds_self_of_lt hf]
    simp
  · rw [Pl.hl_small N hN] at hi
    rw [Array.getElem?_setIfInBounds_ne (by omega)]

/-- In the middle of the loop: the bytes behind place m are written. -/
def Part (cur cur' : Array Value) (off N m : Nat) : Prop :=
  cur'.size = cur.size ∧ cur'[off]? = some (.int .u8 (Pl.hb N 0)) ∧ (∀ j, m < j → j < Pl.hl N → cur'[off + j]? = some (.int .u8 (Pl.hb N j))) ∧ ∀ i, i < off ∨ off + Pl.hl N ≤ i → cur'[i]? = cur[i]?

theorem part_start {cur : Array Value} {off N n : Nat} (hN : 56 ≤ N) (hL : n = Pl.hl N) (hf : off + n ≤ cur.size) : Part cur (cur.setIfInBounds off (.int .u8 (247 + ((n : Int) - 1)))) off N (n - 1) := by
  have h1 := Pl.hl_big N hN
  refine ⟨by simp, ?_, fun j hj hj' => ?_, fun i hi => ?_⟩
  · rw [Array.getElem?_setIfInBounds_self_of_lt (by omega), Pl.hb_zero N hN]
    congr 2
    omega
  · omega
  · rw [Array.getElem?_setIfInBounds_ne (by omega)]
theorem part_step {cur cur' : Array Value} {off N n m t : Nat} (hN : 56 ≤ N) (hL : n = Pl.hl N) (hf : off + n ≤ cur.size) (h : Part cur cur' off N m) (hm : 0 < m) (hm' : m < n) (ht : t = N / 256 ^ (n - 1 - m)) :
    Part cur (cur'.setIfInBounds (off + m) (.int .u8 ((t : Int) % 256))) off N (m - 1) := by
  obtain ⟨h1, h2, h3, h4⟩ := h
  have h5 := Pl.hl_big N hN
  refine ⟨by simpa using h1, ?_, fun j hj hj' => ?_, fun i hi => ?_⟩
  · rw [Array.getElem?_setIfInBounds_ne (by omega)]
    exact h2
  · by_cases e : j = m
    · subst e
      rw [Array.getElem?_setIfInBounds_self_of_lt (by omega)]
      obtain ⟨k, rfl⟩ : ∃ k, j = k + 1 := ⟨j - 1, by omega⟩
      rw [Pl.hb_succ N k hN, show Pl.nb N - (k + 1) = n - 1 - (k + 1) by omega, ← ht]
      simp
    · rw [Array.getElem?_setIfInBounds_ne (by omega)]
      exact h3 j (by omega) hj'
  · rw [Array.getElem?_setIfInBounds_ne (by omega)]
    exact h4 i hi
theorem part_end {cur cur' : Array Value} {off N : Nat} (h : Part cur cur' off N 0) : Headed cur cur' off N := by
  obtain ⟨h1, h2, h3, h4⟩ := h
  refine ⟨h1, fun j hj => ?_, h4⟩
  by_cases e : j = 0
  · subst e; exact h2
  · exact h3 j (by omega) hj
theorem shift_step {N n m t : Nat} (hm : 0 < m) (hm' : m < n) (ht : t = N / 256 ^ (n - 1 - m)) : t / 256 = N / 256 ^ (n - 1 - (m - 1)) := by
  rw [ht, Nat.div_div_eq_div_mul, ← Nat.pow_succ, show (n - 1 - m).succ = n - 1 - (m - 1) by omega]

set_option maxHeartbeats 400000 in
theorem put_small (b off cap N : Nat) (cur : Array Value) (w : World) (hN : N < 56) (hg : w.heap[b]? = some (.cells cur 5 (0, 0))) (hf : off < cur.size) :
    Calls Try.prog 18 #[.slice (some ⟨b, off, none⟩) 1 cap, .int .i64 N] w fun e w' => e = .returned (.tuple #[]) ∧ ∃ cur', Wrote w w' b cur' ∧ Headed cur cur' off N := by
  have W := Wrote.refl hg
  obtain ⟨v, hv⟩ := W.some hf
  have hz := W.free off
  clear hg
  go_enter Try.func18, Try.ntmps18
  go_wp2
  refine bodyPost_ret (results_none rfl _ _ _) rfl ?_
  exact ⟨rfl, _, W.set off _, headed_small hN hf⟩

theorem put_big (b off cap N n : Nat) (cur : Array Value) (w : World) (hN : 56 ≤ N) (hn : N < 9223372036854775808) (hg : w.heap[b]? = some (.cells cur 5 (0, 0))) (HL : Hid (n = Pl.hl N)) (hf : off + n ≤ cur.size) :
    Calls Try.prog 18 #[.slice (some ⟨b, off, none⟩) n cap, .int .i64 N] w fun e w' => e = .returned (.tuple #[]) ∧ ∃ cur', Wrote w w' b cur' ∧ Headed cur cur' off N := by
  have W := Wrote.refl hg
  have h2 : 2 ≤ n := by rw [HL.out]; exact Pl.hl_two N hN
  have h9 : n ≤ 9 := by rw [HL.out]; exact Pl.hl_le N
  obtain ⟨v, hv⟩ := W.some (i := off) (by omega)
  have hz := W.free off
  have hb1 : ((n : Int) == 1) = false := beq_eq_false_iff_ne.2 (by omega)
  clear hg
  go_enter Try.func18, Try.ntmps18
  go_wp2
  go_loopw [1, 4] (fun s i wr => ∃ t m : Nat, ∃ cur', t ≤ N ∧ m < n ∧ s = .int .i64 t ∧ i = .int .i64 m ∧ Hid (t = N / 256 ^ (n - 1 - m)) ∧ Wrote w wr b cur' ∧ Part cur cur' off N m) (fun _ i _ => (intOf i).toNat)
  case atStart => exact ⟨N, n - 1, _, Nat.le_refl _, by omega, rfl, by go_num, (by simp : N = N / 256 ^ (n - 1 - (n - 1))), W.set off _, part_start hN HL.out hf⟩
  case round =>
    obtain ⟨t, m, cur', ht, hm, rfl, rfl, HT, hW, hP⟩ := hrel
    obtain ⟨v', hv'⟩ := hW.some (i := off + m) (by rw [hP.1]; omega)
    have hz' := hW.free (off + m)
    clear hv hz hb1
    by_cases h0 : m = 0
    · subst h0
      go_wp2
      refine bodyPost_end (results_none rfl _ _ _) rfl ?_
      exact ⟨rfl, _, hW, part_end hP⟩
    · have hlt : 0 < m := by omega
      have hs := shift_step hlt hm HT.out
      have HS : Hid (t / 256 = N / 256 ^ (n - 1 - (m - 1))) := hs
      clear hs
      go_wp2
      go_roundw
      case rel => exact ⟨t / 256, m - 1, _, by omega, by omega, by go_num, by go_num, HS, hW.set (off + m) _, part_step hN HL.out hf hP hlt hm HT.out⟩
      case measure => simp [intOf]; omega

/-- putListHeader, whatever the size. -/
theorem put_any (b off cap N n : Nat) (cur : Array Value) (w : World) (hn : N < 9223372036854775808) (hg : w.heap[b]? = some (.cells cur 5 (0, 0))) (hL : n = Pl.hl N) (hf : off + n ≤ cur.size) :
    Calls Try.prog 18 #[.slice (some ⟨b, off, none⟩) n cap, .int .i64 N] w fun e w' => e = .returned (.tuple #[]) ∧ ∃ cur', Wrote w w' b cur' ∧ Headed cur cur' off N := by
  by_cases h : N < 56
  · rw [Pl.hl_small N h] at hL
    subst hL
    exact put_small b off cap N cur w h hg (by omega)
  · exact put_big b off cap N n cur w (by omega) hn hg hL hf

theorem zzPut_any (b off cap N n : Nat) (cur : Array Value) (w : World) (hn : N < 9223372036854775808) (hg : w.heap[b]? = some (.cells cur 5 (0, 0))) (hL : n = Pl.hl N) (hf : off + n ≤ cur.size) :
    Calls Try.prog 12 #[.slice (some ⟨b, off, none⟩) n cap, .int .i64 N] w fun e w' => e = .returned (.tuple #[]) ∧ ∃ cur', Wrote w w' b cur' ∧ Headed cur cur' off N := by
  have HG : Hid (w.heap[b]? = some (.cells cur 5 (0, 0))) := hg
  have HL : Hid (n = Pl.hl N) := hL
  clear hg hL
  go_enter Try.func12, Try.ntmps12
  go_wp2_with fail
  refine (put_any b off cap N n cur _ hn HG.out HL.out hf).mono ?_
  rintro e w' ⟨rfl, h⟩
  go_wp2
  refine bodyPost_end (results_none rfl _ _ _) rfl ?_
  exact ⟨rfl, h⟩

end Go.Proofs.Qxb6603716a
