/-
  zzb1WireLabels (19); label (30); lower (31), zzb1LowerByte (21).
-/
import Derived.Test.Qxb6603816aWire
import Derived.Deep.QuietTactic
import Derived.BigQuiet
namespace Go.Proofs.Qxb6603816a
open Go.RowKit

theorem Try.info9 : (Try.prog.info? 9).map (fun i => (i.zero, i.size, i.bytes)) = some (some (.string ByteArray.empty), 1, 16) := by kernel_rfl

/-- Label j, as a string. -/
def lab (s : ByteArray) (j : Nat) : ByteArray := s.extract (P s j + 1) (P s j + 1 + byt s (P s j))
theorem P_mono (s : ByteArray) (j : Nat) : j ≤ P s j := by
  induction j with
  | zero => exact Nat.zero_le _
  | succ j ih => rw [P_succ]; omega
theorem Wire.P_lt {s : ByteArray} {m : Nat} (h : Wire s m) {j : Nat} (hj : j < m) : P s j + 1 < s.size := by
  have := h.lab j hj
  omega
theorem Wire.m_le {s : ByteArray} {m : Nat} (h : Wire s m) : 2 * m ≤ 254 := by
  have key : ∀ j, j ≤ m → 2 * j ≤ P s j := by
    intro j
    induction j with
    | zero => intro _; exact Nat.zero_le _
    | succ j ih =>
      intro hj
      have := (h.lab j (by omega)).1
      have := ih (by omega)
      rw [P_succ]
      omega
  have h1 := key m (Nat.le_refl _)
  have h2 := h.size
  rcases h.fin with ⟨_, r⟩ | ⟨r, _⟩ <;> omega

set_option maxRecDepth 100000 in
set_option maxHeartbeats 800000 in
/-- zzb1WireLabels of a valid wire: its labels, leftmost first. -/
theorem labels_any (s : ByteArray) (m : Nat) (w : World) (hW : Wire s m) :
    Calls Try.prog 19 #[.string s] w fun e w' => ∃ v, e = .returned v ∧ Below w.heap.size w w' ∧ w'.ownsRow w.heap.size 9 1 v m ((List.range m).map fun j => Value.string (lab s j)) := by
  obtain ⟨i9, hi9, hz90, hz91, hz92⟩ := info_parts Try.info9
  have hs : s.size / 256 = 0 := by have := hW.size; omega
  have hm : m ≤ 127 := by have := hW.m_le; omega
  have HW := hide hW
  clear hW
  go_enter Try.func19, Try.ntmps19
  go_wp2
  go_loopw [3, 4] (fun v i wr => ∃ (k j : Nat) (e : Value), i = .int .i64 k ∧ e = v ∧ Hid (k = P s j) ∧ j ≤ m ∧ Below w.heap.size w wr ∧ wr.ownsRow w.heap.size 9 1 e j ((List.range j).map fun j => Value.string (lab s j))) (fun _ i _ => s.size + 1 - (intOf i).toNat)
  case atStart => exact ⟨0, 0, _, rfl, rfl, rfl, Nat.zero_le _, Below.refl _ _, World.ownsRow_nil _ _ _ _⟩
  case round =>
    obtain ⟨k, j, e, rfl, rfl, HK, hj, hB, hO⟩ := hrel
    have HB := hide hB
    have HO := hide hO
    have hs2 := hB.size
    clear hB hO
    by_cases hjm : j < m
    · obtain ⟨y1, y2⟩ := HW.out.lab j hjm
      rw [← HK.out] at y1 y2
      have hk : k < s.size := by omega
      obtain ⟨c, hc⟩ : ∃ c, s[k].toNat = c := ⟨_, rfl⟩
      have hcb : c = byt s k := by rw [← hc, byt_get hk]
      rw [← hcb] at y1 y2
      have HCB := hide hcb
      have d2 : ((c : Int) == 0) = false := beq_eq_false_iff_ne.2 (by omega)
      have q0 : (0 : Int) ≤ (k : Int) + 1 := by omega
      have q2 : (k : Int) + 1 ≤ (k : Int) + 1 + (c : Int) := by omega
      have q3 : (k : Int) + 1 + (c : Int) ≤ (s.size : Int) := by omega
      obtain ⟨xs, hxs⟩ : ∃ xs, xs = (List.range j).map fun j => Value.string (lab s j) := ⟨_, rfl⟩
      rw [← hxs] at HO
      have HXS := hide hxs
      have HL : Hid (s.extract (k + 1) (k + 1 + c) = lab s j) := by
        show _ = _
        unfold lab
        rw [← HK.out, ← hcb]
      have HK1 : Hid (k + (1 + c) = P s (j + 1)) := by
        show _ = _
        rw [P_succ, ← HK.out, ← hcb]
        omega
      clear hcb hxs
      go_wp2_with (at_builtin; refine wpList_append_lies _ (by rfl) (.tmp 16) (.tmp 25) 37 (by rfl) w.heap.size 9 i9 (.string ByteArray.empty) 1 16 Try.underlying37 hi9 hz90 hz91 hz92 rfl (by decide) e j xs (by rfl) (HO.out.alloc _) ⟨wr.heap.size, 0, none⟩ 1 1 [.string (s.extract (k + 1) (k + 1 + c))] (by rfl) (by rfl) (World.news_of_block (cs := #[.string (s.extract (k + 1) (k + 1 + c))]) (t := 9) (fr := (0, 0)) (heap_alloc_new wr _)) (by simp [Value.oneCell']) (by omega) (by unfold maxLen; omega) (by omega) (by simp; omega) (wr.heap.size + 1) (by simp) ?_; intro gg cp w1 hown hgrow hat hlt1)
      have hB1 : Below w.heap.size w w1 := (HB.out.alloc hs2 _).grown hgrow (by simp; omega) (fun b hb => (HO.out.lt b hb).1)
      have hO1 : w1.ownsRow w.heap.size 9 1 (.slice (some ⟨gg, 0, none⟩) (j + 1) cp) (j + 1) ((List.range (j + 1)).map fun j => Value.string (lab s j)) := by
        rw [List.range_succ, List.map_append, ← HXS.out]
        rw [HL.out] at hown
        exact hown
      go_roundw
      case rel => exact ⟨k + (1 + c), j + 1, _, by go_num, rfl, HK1, by omega, hB1, hO1⟩
      case measure => simp [intOf]; omega
    · have hjm2 : j = m := by omega
      rcases HW.out.fin with ⟨r1, r2⟩ | ⟨r1, r2⟩
      · have hk0 : k = 0 := by rw [HK.out, hjm2, r2]; rfl
        have r1' : s.size ≤ 0 := by omega
        have hk0' : k ≤ 0 := by omega
        have HJ := hide hjm2
        clear r1 r2 hk0 hjm2
        go_wp2
        go_ret
        refine ⟨_, rfl, HB.out, ?_⟩
        rw [← HJ.out]
        exact HO.out
      · have HJ := hide hjm2
        rw [← hjm2, ← HK.out] at r1 r2
        have hk : k < s.size := by omega
        have hc : s[k].toNat = 0 := by rw [byt_get hk, r2]
        clear r1 r2 hjm2
        go_wp2
        go_ret
        refine ⟨_, rfl, HB.out, ?_⟩
        rw [← HJ.out]
        exact HO.out

/-- ASCII letters in lower case. -/
def low (c : Int) : Int := if 65 ≤ c ∧ c ≤ 90 then c + 32 else c
theorem ret_u8 {a b : Int} (h : a = b) : Ending.returned (.int .u8 a) = .returned (.int .u8 b) := by rw [h]
theorem lower_any (c : Int) (w : World) (h0 : 0 ≤ c) (h1 : c ≤ 255) : Calls Try.prog 31 #[.int .u8 c] w fun e w' => e = .returned (.int .u8 (low c)) ∧ w' = w := by
  by_cases h2 : 65 ≤ c
  · by_cases h3 : c ≤ 90
    · go_enter Try.func31, Try.ntmps31
      go_wp2
      go_ret
      exact ⟨ret_u8 (by unfold low; rw [if_pos ⟨h2, h3⟩]; omega), rfl⟩
    · have d : decide (c ≤ 90) = false := decide_eq_false h3
      go_enter Try.func31, Try.ntmps31
      go_wp2
      go_ret
      exact ⟨ret_u8 (by unfold low; rw [if_neg (by omega)]), rfl⟩
  · have d : decide (65 ≤ c) = false := decide_eq_false h2
    go_enter Try.func31, Try.ntmps31
    go_wp2
    go_ret
    exact ⟨ret_u8 (by unfold low; rw [if_neg (by omega)]), rfl⟩
theorem zzLower_any (c : Int) (w : World) (h0 : 0 ≤ c) (h1 : c ≤ 255) : Calls Try.prog 21 #[.int .u8 c] w fun e w' => e = .returned (.int .u8 (low c)) ∧ w' = w := by
  by_cases h2 : 65 ≤ c
  · by_cases h3 : c ≤ 90
    · go_enter Try.func21, Try.ntmps21
      go_wp2
      go_ret
      exact ⟨ret_u8 (by unfold low; rw [if_pos ⟨h2, h3⟩]), rfl⟩
    · have d : decide (c ≤ 90) = false := decide_eq_false h3
      go_enter Try.func21, Try.ntmps21
      go_wp2
      go_ret
      exact ⟨ret_u8 (by unfold low; rw [if_neg (by omega)]), rfl⟩
  · have d : decide (65 ≤ c) = false := decide_eq_false h2
    go_enter Try.func21, Try.ntmps21
    go_wp2
    go_ret
    exact ⟨ret_u8 (by unfold low; rw [if_neg (by omega)]), rfl⟩

set_option maxRecDepth 100000 in
set_option maxHeartbeats 800000 in
theorem label_any (s : ByteArray) (k c : Nat) (w : World) (hs : s.size / 256 = 0) (hk : k + 1 + c < s.size) (hc : c = byt s k) :
    Calls Try.prog 30 #[.agg #[.string s], .int .u8 (k : Int)] w fun e w' => e = .returned (.string (s.extract (k + 1) (k + 1 + c))) ∧ Below w.heap.size w w' := by
  have hk2 : k < s.size := by omega
  have hcc : s[k].toNat = c := by rw [hc]; exact byt_get hk2
  have q1 : (k : Int) < (s.size : Int) := by omega
  have q0 : (0 : Int) ≤ (k : Int) + 1 := by omega
  have q2 : (k : Int) + 1 ≤ (k : Int) + 1 + (c : Int) := by omega
  have q3 : (k : Int) + 1 + (c : Int) ≤ (s.size : Int) := by omega
  clear hc
  go_enter Try.func30, Try.ntmps30
  go_wp2
  go_quiet (fail)
  go_wp2
  go_ret
  exact ⟨rfl, ((Below.refl _ w).alloc (Nat.le_refl _) _).trans ⟨rfl, rfl, rfl, Nat.le_refl _, fun _ _ => rfl⟩⟩

end Go.Proofs.Qxb6603816a
