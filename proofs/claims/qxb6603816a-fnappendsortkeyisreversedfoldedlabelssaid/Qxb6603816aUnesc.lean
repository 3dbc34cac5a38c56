/-
  zzb1UnescapePiece (26): a new byte slice that reads 'unesc'.
-/
import Derived.Test.Qxb6603816aSplit
namespace Go.Proofs.Qxb6603816a
open Go.RowKit

/-- A byte more. -/
theorem Own.snoc {w1 : World} {H gg cp : Nat} {last : List Int} {c : Int} (hown : w1.ownsRow H 5 1 (.slice (some ⟨gg, 0, none⟩) (last.length + 1) cp) (last.length + 1) (last.map (Value.int .u8) ++ [.int .u8 c])) :
    Own w1 H (.slice (some ⟨gg, 0, none⟩) (last.length + 1) cp) (last ++ [c]) := by
  refine ⟨?_, fun hh => by simp at hh⟩
  have e2 : (last ++ [c]).length = last.length + 1 := by simp
  have e3 : (last ++ [c]).map (Value.int .u8) = last.map (Value.int .u8) ++ [.int .u8 c] := by simp
  rw [e2, e3]
  exact hown

set_option maxHeartbeats 1600000 in
set_option maxRecDepth 100000 in
theorem unesc_some (b o cap0 : Nat) (t : List Int) (w : World) (hl : t.length / 1048577 = 0) (hb : b < w.heap.size) (hc : ∀ j, j < t.length → w.cell? ⟨b, o + j, none⟩ = some (.int .u8 (t.getD j 0))) :
    Calls Try.prog 26 #[.slice (some ⟨b, o, none⟩) t.length cap0] w fun e w' => ∃ v, e = .returned v ∧ Below w.heap.size w w' ∧ Own w' w.heap.size v (Pl.unesc t) := by
  obtain ⟨i5, hi5, hz50, hz51, hz52⟩ := info_parts Try.info5
  have HC := hide hc
  clear hc
  go_enter Try.func26, Try.ntmps26
  go_wp2
  go_loopw [3, 4] (fun v i wr => ∃ (k : Nat) (last : List Int) (e : Value), k ≤ t.length ∧ i = .int .i64 k ∧ e = v ∧ Own wr w.heap.size e last ∧ Below w.heap.size w wr ∧ last.length ≤ k ∧ Hid (last ++ Pl.unesc (t.drop k) = Pl.unesc t)) (fun _ i _ => t.length - (intOf i).toNat)
  case atStart => exact ⟨0, [], _, Nat.zero_le _, rfl, rfl, Own.nil _ _, Below.refl _ _, Nat.le_refl _, rfl⟩
  case round =>
    obtain ⟨k, last, e, hk, rfl, rfl, hO, hB, hla, HP⟩ := hrel
    have HO := hide hO
    have HB := hide hB
    by_cases hlt : k < t.length
    · obtain ⟨c, hcc⟩ : ∃ c, c = t.getD k 0 := ⟨_, rfl⟩
      have hct : wr.cell? ⟨b, o + k, none⟩ = some (.int .u8 c) := by rw [hcc, ← HC.out k hlt]; exact hB.cell (p := ⟨b, o + k, none⟩) hb
      have HCC := hide hcc
      clear hcc
      by_cases h92 : c = 92 ∧ k + 1 < t.length
      · obtain ⟨h92, hlt2⟩ := h92
        have d4 : (c == 92) = true := beq_iff_eq.2 h92
        have d5 : decide ((k : Int) + 1 < (t.length : Int)) = true := decide_eq_true (by omega)
        obtain ⟨d, hdd⟩ : ∃ d, d = t.getD (k + 1) 0 := ⟨_, rfl⟩
        have hdt : wr.cell? ⟨b, o + (k + 1), none⟩ = some (.int .u8 d) := by rw [hdd, ← HC.out (k + 1) hlt2]; exact hB.cell (p := ⟨b, o + (k + 1), none⟩) hb
        have HP1 : Hid (last ++ [d] ++ Pl.unesc (t.drop (k + 2)) = Pl.unesc t) := by
          show _ = _
          rw [← HP.out, drop_at hlt, drop_at hlt2, ← HCC.out, ← hdd, Pl.unesc_esc c h92]
          simp
        clear h92 hdd hO hB
        go_wp2_with (at_builtin; refine wpList_append_lies _ (by rfl) (.tmp 25) (.tmp 30) 22 (by rfl) w.heap.size 5 i5 (.int .u8 0) 1 1 Try.underlying22 hi5 hz50 hz51 hz52 rfl (by decide) e last.length (last.map (Value.int .u8)) (by rfl) (HO.out.1.alloc _) ⟨wr.heap.size, 0, none⟩ 1 1 [.int .u8 d] (by rfl) (by rfl) (World.news_of_block (cs := #[.int .u8 d]) (t := 5) (fr := (0, 0)) (heap_alloc_new wr _)) (by simp [Value.oneCell']) (by omega) (by unfold maxLen; omega) (by omega) (by have := HB.out.size; simp; omega) (wr.heap.size + 1) (by simp) ?_; intro gg cp w1 hown1 hgrow hat hlt1)
        have hs := HB.out.size
        have hB1 : Below w.heap.size w w1 := (HB.out.alloc hs _).grown hgrow (by simp; omega) (fun b hb => (HO.out.block hb).1)
        have hO1 := Own.snoc hown1
        go_roundw
        case rel => exact ⟨k + 2, last ++ [d], _, by omega, by go_num, rfl, hO1, hB1, by simp; omega, HP1⟩
        case measure => simp [intOf]; omega
      · have HP1 : Hid (last ++ [c] ++ Pl.unesc (t.drop (k + 1)) = Pl.unesc t) := by
          show _ = _
          rw [← HP.out, drop_at hlt, ← HCC.out, Pl.unesc_plain c _ (by
            by_cases h : c = 92
            · exact .inr (List.drop_eq_nil_of_le (by omega))
            · exact .inl h)]
          simp
        clear hO hB
        by_cases h92' : c = 92
        · have d4 : (c == 92) = true := beq_iff_eq.2 h92'
          have d5 : decide ((k : Int) + 1 < (t.length : Int)) = false := decide_eq_false (by omega)
          clear h92' h92
          go_wp2_with (at_builtin; refine wpList_append_lies _ (by rfl) (.tmp 25) (.tmp 30) 22 (by rfl) w.heap.size 5 i5 (.int .u8 0) 1 1 Try.underlying22 hi5 hz50 hz51 hz52 rfl (by decide) e last.length (last.map (Value.int .u8)) (by rfl) (HO.out.1.alloc _) ⟨wr.heap.size, 0, none⟩ 1 1 [.int .u8 c] (by rfl) (by rfl) (World.news_of_block (cs := #[.int .u8 c]) (t := 5) (fr := (0, 0)) (heap_alloc_new wr _)) (by simp [Value.oneCell']) (by omega) (by unfold maxLen; omega) (by omega) (by have := HB.out.size; simp; omega) (wr.heap.size + 1) (by simp) ?_; intro gg cp w1 hown1 hgrow hat hlt1)
          have hs := HB.out.size
          have hB1 : Below w.heap.size w w1 := (HB.out.alloc hs _).grown hgrow (by simp; omega) (fun b hb => (HO.out.block hb).1)
          have hO1 := Own.snoc hown1
          go_roundw
          case rel => exact ⟨k + 1, last ++ [c], _, by omega, by go_num, rfl, hO1, hB1, by simp; omega, HP1⟩
          case measure => simp [intOf]; omega
        · have d4 : (c == 92) = false := beq_eq_false_iff_ne.2 h92'
          clear h92' h92
          go_wp2_with (at_builtin; refine wpList_append_lies _ (by rfl) (.tmp 25) (.tmp 30) 22 (by rfl) w.heap.size 5 i5 (.int .u8 0) 1 1 Try.underlying22 hi5 hz50 hz51 hz52 rfl (by decide) e last.length (last.map (Value.int .u8)) (by rfl) (HO.out.1.alloc _) ⟨wr.heap.size, 0, none⟩ 1 1 [.int .u8 c] (by rfl) (by rfl) (World.news_of_block (cs := #[.int .u8 c]) (t := 5) (fr := (0, 0)) (heap_alloc_new wr _)) (by simp [Value.oneCell']) (by omega) (by unfold maxLen; omega) (by omega) (by have := HB.out.size; simp; omega) (wr.heap.size + 1) (by simp) ?_; intro gg cp w1 hown1 hgrow hat hlt1)
          have hs := HB.out.size
          have hB1 : Below w.heap.size w w1 := (HB.out.alloc hs _).grown hgrow (by simp; omega) (fun b hb => (HO.out.block hb).1)
          have hO1 := Own.snoc hown1
          go_roundw
          case rel => exact ⟨k + 1, last ++ [c], _, by omega, by go_num, rfl, hO1, hB1, by simp; omega, HP1⟩
          case measure => simp [intOf]; omega
    · have hkn : k = t.length := by omega
      have HP2 : Hid (last = Pl.unesc t) := by
        show _ = _
        rw [← HP.out, hkn, List.drop_length]
        simp [Pl.unesc]
      clear hO hB
      go_wp2
      go_ret
      refine ⟨_, rfl, HB.out, ?_⟩
      rw [← HP2.out]
      exact HO.out

theorem unesc_none (a : Option Addr) (cap0 : Nat) (w : World) :
    Calls Try.prog 26 #[.slice a 0 cap0] w fun e w' => ∃ v, e = .returned v ∧ Below w.heap.size w w' ∧ Own w' w.heap.size v (Pl.unesc []) := by
  go_enter Try.func26, Try.ntmps26
  go_wp2
  refine wp_loop_rounds 1 ?_
  rw [rounds_succ]
  go_wp2
  go_ret
  exact ⟨_, rfl, Below.refl _ _, Own.nil _ _⟩

theorem unesc_any (a : Option Addr) (cap0 n : Nat) (t : List Int) (w : World) (hn : n = t.length) (hl : t.length / 1048577 = 0) (h : Txt w a t) :
    Calls Try.prog 26 #[.slice a n cap0] w fun e w' => ∃ v, e = .returned v ∧ Below w.heap.size w w' ∧ Own w' w.heap.size v (Pl.unesc t) := by
  subst hn
  rcases h with rfl | ⟨b, o, rfl, hb, hc⟩
  · exact unesc_none a cap0 w
  · exact unesc_some b o cap0 t w hl hb hc

end Go.Proofs.Qxb6603816a
