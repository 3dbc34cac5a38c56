/-
  zzb1JoinEscaped (14): a new byte slice that reads 'joinE'.
-/
import Derived.Test.Qxb6603816aTab
namespace Go.Proofs.Qxb6603816a
open Go.RowKit

theorem snoc6 {w1 : World} {H n : Nat} {v : Value} {last : List Int} {c : Int} (_ : n = last.length) (hown : w1.ownsRow H 5 1 v (n + 1) (last.map (Value.int .u8) ++ [.int .u8 c])) : w1.ownsRow H 5 1 v (n + 1) ((last ++ [c]).map (Value.int .u8)) := by
  have e3 : (last ++ [c]).map (Value.int .u8) = last.map (Value.int .u8) ++ [.int .u8 c] := by simp
  rw [e3]
  exact hown
theorem len6 {w1 : World} {H n m : Nat} {v : Value} {xs : List Value} (h : m = n) (hown : w1.ownsRow H 5 1 v n xs) : w1.ownsRow H 5 1 v m xs := by
  rw [h]; exact hown
theorem pre_own {w1 : World} {H : Nat} {v : Value} {pre txt : List Int} {c : Int} (h : pre = txt ++ [c]) (ho : w1.ownsRow H 5 1 v (txt.length + 1) ((txt ++ [c]).map (Value.int .u8))) : w1.ownsRow H 5 1 v pre.length (pre.map (Value.int .u8)) := by
  subst h
  exact len6 (by simp) ho
theorem owns_lo {w : World} {base e n : Nat} {v : Value} {xs : List Value} (h : w.ownsRow base e 1 v n xs) {b : Nat} (hb : v.ownBlock = some b) : base ≤ b := (h.lt b hb).1
theorem Txt.at {w w2 : World} {b o : Nat} {x : List Int} (h : Txt w (some ⟨b, o, none⟩) x) {i : Nat} (hi : i < x.length) (hb : Below w.heap.size w w2) : w2.cell? ⟨b, o + i, none⟩ = some (.int .u8 (x.getD i 0)) := by
  rcases h with rfl | ⟨b', o', h1, h2, h3⟩
  · simp at hi
  · simp only [Option.some.injEq, Addr.mk.injEq, and_true] at h1
    obtain ⟨rfl, rfl⟩ := h1
    exact (hb.cell (p := ⟨b, o + i, none⟩) h2).trans (h3 i hi)
theorem push_below {w wc w1 : World} {n : Nat} {v : Value} {xs : List Value} {X : Obj} (ho : wc.ownsRow w.heap.size 5 1 v n xs) (hb : Below w.heap.size w wc) (hg : (wc.alloc X).grownBy w1 v.ownBlock) : Below w.heap.size w w1 := by
  have := hb.size
  exact (hb.alloc this X).grown hg (by simp; omega) (fun b h => owns_lo ho h)
theorem takeI_snoc {x : List Int} {k : Nat} (h : k < x.length) : x.take (k + 1) = x.take k ++ [x.getD k 0] := by
  rw [List.take_succ_eq_append_getElem h]
  simp [List.getD, h]
theorem join_len (l : List (List Int)) : (Pl.joinE l).length ≤ 2 * sumL l + l.length := by
  induction l with
  | nil => exact Nat.zero_le _
  | cons x l ih =>
    have := Pl.esc_len x
    cases l with
    | nil => simp only [Pl.joinE, sumL, List.length_cons, List.length_nil]; omega
    | cons y l => simp only [Pl.joinE, sumL, List.length_cons, List.length_append] at ih ⊢; omega
theorem join_step {its : List (List Int)} {k : Nat} (h : k < its.length) (h0 : 0 < k) : Pl.joinE (its.take k) ++ [44] ++ Pl.esc (its.getD k []) = Pl.joinE (its.take (k + 1)) := by
  rw [take_snoc h, Pl.joinE_snoc _ _ (fun hh => by have := congrArg List.length hh; rw [List.length_take, List.length_nil] at this; omega)]
  simp
theorem join_first {its : List (List Int)} (h : 0 < its.length) : [] ++ Pl.esc (its.getD 0 []) = Pl.joinE (its.take 1) := by
  rw [take_snoc h]
  rfl

set_option maxRecDepth 100000 in
set_option maxHeartbeats 3200000 in
theorem join_any (b o cap : Nat) (its : List (List Int)) (w : World) (hl : its.length / 1048577 = 0) (hsum : sumL its / 1048577 = 0) (ht : Tab w b o its) :
    Calls Try.prog 14 #[.slice (some ⟨b, o, none⟩) its.length cap] w fun e w' => ∃ v, e = .returned v ∧ Below w.heap.size w w' ∧ w'.ownsRow w.heap.size 5 1 v (Pl.joinE its).length ((Pl.joinE its).map (Value.int .u8)) := by
  obtain ⟨i5, hi5, hz50, hz51, hz52⟩ := info_parts Try.info5
  have HT := hide ht
  clear ht
  go_enter Try.func14, Try.ntmps14
  go_wp2
  go_loopw [3, 4] (fun v i wr => ∃ (k : Nat) (txt : List Int) (e : Value), k ≤ its.length ∧ i = .int .i64 k ∧ e = v ∧ wr.ownsRow w.heap.size 5 1 e txt.length (txt.map (Value.int .u8)) ∧ Below w.heap.size w wr ∧ Hid (txt = Pl.joinE (its.take k))) (fun _ i _ => its.length - (intOf i).toNat)
  case atStart => exact ⟨0, [], _, Nat.zero_le _, rfl, rfl, World.ownsRow_nil _ _ _ _, Below.refl _ _, rfl⟩
  case round =>
    obtain ⟨k, txt, e, hk, rfl, rfl, hO, hB, HP⟩ := hrel
    have HO := hide hO
    have HB := hide hB
    have hs := hB.size
    by_cases hlt : k < its.length
    · obtain ⟨x, hx⟩ : ∃ x, x = its.getD k [] := ⟨_, rfl⟩
      obtain ⟨a, c, g0, t0, n0⟩ := HT.out.2 k hlt
      have g1 := (hB.cell (p := ⟨b, o + k, none⟩) HT.out.1).trans g0
      rw [← hx] at g1 t0
      have TX := hide t0
      have G0 := hide g0
      have G0 := hide g0
      have G0 := hide g0
      have G0 := hide g0
      have hxl : txt.length + 2 * x.length ≤ 4194304 := by
        have e1 := join_len (its.take k)
        have e2 := sumL_take hlt
        have e3 := sumL_le (its := its) (k := k + 1)
        rw [← HP.out] at e1
        rw [← hx] at e2
        simp only [List.length_take] at e1
        omega
      have hxl' : (txt.length + 2 * x.length) / 4194305 = 0 := by omega
      have X := hide hx
      clear g0 t0 n0 hO hB hx hxl
      by_cases hk0 : k = 0
      · have hk1 : (k : Int) ≤ 0 := by omega
        have hk3 : decide (0 < k) = false := decide_eq_false (by omega)
        obtain ⟨pre, hpre⟩ : ∃ pre : List Int, pre = txt := ⟨_, rfl⟩
        have HPre : Hid (pre ++ Pl.esc x = Pl.joinE (its.take (k + 1))) := by
          show _ = _
          have e1 : txt = [] := by rw [HP.out, hk0]; rfl
          rw [hpre, e1, X.out, hk0]
          exact join_first (by omega)
        rw [← hpre] at HO hxl'
        clear hk0 hpre HP
        go_wp2
        go_loopw [3, 6] (fun v j w2 => ∃ (i : Nat) (tx : List Int) (e2 : Value), i ≤ x.length ∧ j = .int .i64 i ∧ e2 = v ∧ w2.ownsRow w.heap.size 5 1 e2 tx.length (tx.map (Value.int .u8)) ∧ Below w.heap.size w w2 ∧ tx.length ≤ pre.length + 2 * i ∧ Hid (tx = pre ++ Pl.esc (x.take i))) (fun _ j _ => x.length - (intOf j).toNat)
        case atStart => exact ⟨0, pre, _, Nat.zero_le _, rfl, rfl, HO.out, HB.out, by omega, (by simp [Pl.esc] : pre = pre ++ Pl.esc [])⟩
        case round =>
          obtain ⟨i, tx, e2, hix, rfl, rfl, hO2, hB2, htl, HX⟩ := hrel
          have HO2 := hide hO2
          have HB2 := hide hB2
          have hs2 := hB2.size
          by_cases hlt2 : i < x.length
          · obtain ⟨d, hd⟩ : ∃ d, d = x.getD i 0 := ⟨_, rfl⟩
            obtain ⟨b2, o2, rfl⟩ : ∃ b2 o2, a = some ⟨b2, o2, none⟩ := by
              rcases TX.out.len_lt with r | r
              · rw [r] at hlt2; simp at hlt2
              · exact r
            have g2 := TX.out.at hlt2 hB2
            rw [← hd] at g2
            have HX1 : Hid (tx ++ Pl.esc1 d = pre ++ Pl.esc (x.take (i + 1))) := by
              show _ = _
              rw [HX.out, takeI_snoc hlt2, Pl.esc_snoc, ← hd, List.append_assoc]
            have D := hide hd
            clear hd hO2 hB2
            by_cases hes : d = 44 ∨ d = 92
            · have HX2 : Hid (tx ++ [92] ++ [d] = pre ++ Pl.esc (x.take (i + 1))) := by
                show _ = _
                rw [← HX1.out, Pl.esc1, if_pos hes, List.append_assoc]
                rfl
              rcases hes with hc1 | hc1
              · have d1 : (d == 44) = true := beq_iff_eq.2 hc1
                clear hc1
                go_wp2_with (first | (at_builtin; refine wpList_append_lies _ (by rfl) (.tmp 40) (.tmp 41) 22 (by rfl) w.heap.size 5 i5 (.int .u8 0) 1 1 Try.underlying22 hi5 hz50 hz51 hz52 rfl (by decide) e2 (tx.length) (tx.map (Value.int .u8)) (by rfl) (HO2.out.alloc _) ⟨wr.heap.size, 0, none⟩ 1 1 [.int .u8 92] (by rfl) (by rfl) (World.news_of_block (cs := #[.int .u8 92]) (t := 5) (fr := (0, 0)) (heap_alloc_new wr _)) (by simp [Value.oneCell']) (by omega) (by unfold maxLen; omega) (by omega) (by simp; omega) (wr.heap.size + 1) (by simp) ?_; intro gg1 cp1 w3 hown1 hgrow1 hat1 hlt1; have HO1 := hide (snoc6 rfl hown1); have HB1 := hide (push_below HO2.out HB2.out hgrow1); have hz1 := HB1.out.size; have g3 := TX.out.at hlt2 HB1.out; rw [← D.out] at g3; clear hown1 hgrow1 hat1 hlt1) | (at_builtin; refine wpList_append_lies _ (by rfl) (.tmp 43) (.tmp 48) 22 (by rfl) w.heap.size 5 i5 (.int .u8 0) 1 1 Try.underlying22 hi5 hz50 hz51 hz52 rfl (by decide) (.slice (some ⟨gg1, 0, none⟩) (tx.length + 1) cp1) (tx.length + 1) ((tx ++ [92]).map (Value.int .u8)) (by rfl) (HO1.out.alloc _) ⟨w3.heap.size, 0, none⟩ 1 1 [.int .u8 d] (by rfl) (by rfl) (World.news_of_block (cs := #[.int .u8 d]) (t := 5) (fr := (0, 0)) (heap_alloc_new w3 _)) (by simp [Value.oneCell']) (by omega) (by unfold maxLen; omega) (by omega) (by simp; omega) (w3.heap.size + 1) (by simp) ?_; intro gg3 cp3 w4 hown3 hgrow3 hat3 hlt3; have HO3 := hide (snoc6 (by simp) hown3); have HB3 := hide (push_below HO1.out HB1.out hgrow3); have hz3 := HB3.out.size; clear hown3 hgrow3 hat3 hlt3))
                go_roundw
                case rel => exact ⟨i + 1, _, _, by omega, by go_num, rfl, len6 (by simp) HO3.out, HB3.out, by simp; omega, HX2⟩
                case measure => simp [intOf]; omega
              · have d1 : (d == 44) = false := beq_eq_false_iff_ne.2 (by omega)
                have d2 : (d == 92) = true := beq_iff_eq.2 hc1
                clear hc1
                go_wp2_with (first | (at_builtin; refine wpList_append_lies _ (by rfl) (.tmp 40) (.tmp 41) 22 (by rfl) w.heap.size 5 i5 (.int .u8 0) 1 1 Try.underlying22 hi5 hz50 hz51 hz52 rfl (by decide) e2 (tx.length) (tx.map (Value.int .u8)) (by rfl) (HO2.out.alloc _) ⟨wr.heap.size, 0, none⟩ 1 1 [.int .u8 92] (by rfl) (by rfl) (World.news_of_block (cs := #[.int .u8 92]) (t := 5) (fr := (0, 0)) (heap_alloc_new wr _)) (by simp [Value.oneCell']) (by omega) (by unfold maxLen; omega) (by omega) (by simp; omega) (wr.heap.size + 1) (by simp) ?_; intro gg1 cp1 w3 hown1 hgrow1 hat1 hlt1; have HO1 := hide (snoc6 rfl hown1); have HB1 := hide (push_below HO2.out HB2.out hgrow1); have hz1 := HB1.out.size; have g3 := TX.out.at hlt2 HB1.out; rw [← D.out] at g3; clear hown1 hgrow1 hat1 hlt1) | (at_builtin; refine wpList_append_lies _ (by rfl) (.tmp 43) (.tmp 48) 22 (by rfl) w.heap.size 5 i5 (.int .u8 0) 1 1 Try.underlying22 hi5 hz50 hz51 hz52 rfl (by decide) (.slice (some ⟨gg1, 0, none⟩) (tx.length + 1) cp1) (tx.length + 1) ((tx ++ [92]).map (Value.int .u8)) (by rfl) (HO1.out.alloc _) ⟨w3.heap.size, 0, none⟩ 1 1 [.int .u8 d] (by rfl) (by rfl) (World.news_of_block (cs := #[.int .u8 d]) (t := 5) (fr := (0, 0)) (heap_alloc_new w3 _)) (by simp [Value.oneCell']) (by omega) (by unfold maxLen; omega) (by omega) (by simp; omega) (w3.heap.size + 1) (by simp) ?_; intro gg3 cp3 w4 hown3 hgrow3 hat3 hlt3; have HO3 := hide (snoc6 (by simp) hown3); have HB3 := hide (push_below HO1.out HB1.out hgrow3); have hz3 := HB3.out.size; clear hown3 hgrow3 hat3 hlt3))
                go_roundw
                case rel => exact ⟨i + 1, _, _, by omega, by go_num, rfl, len6 (by simp) HO3.out, HB3.out, by simp; omega, HX2⟩
                case measure => simp [intOf]; omega
            · have HX2 : Hid (tx ++ [d] = pre ++ Pl.esc (x.take (i + 1))) := by
                show _ = _
                rw [← HX1.out, Pl.esc1, if_neg hes]
              have d1 : (d == 44) = false := beq_eq_false_iff_ne.2 (by omega)
              have d2 : (d == 92) = false := beq_eq_false_iff_ne.2 (by omega)
              clear hes
              go_wp2_with (at_builtin; refine wpList_append_lies _ (by rfl) (.tmp 43) (.tmp 48) 22 (by rfl) w.heap.size 5 i5 (.int .u8 0) 1 1 Try.underlying22 hi5 hz50 hz51 hz52 rfl (by decide) e2 (tx.length) (tx.map (Value.int .u8)) (by rfl) (HO2.out.alloc _) ⟨wr.heap.size, 0, none⟩ 1 1 [.int .u8 d] (by rfl) (by rfl) (World.news_of_block (cs := #[.int .u8 d]) (t := 5) (fr := (0, 0)) (heap_alloc_new wr _)) (by simp [Value.oneCell']) (by omega) (by unfold maxLen; omega) (by omega) (by simp; omega) (wr.heap.size + 1) (by simp) ?_; intro gg3 cp3 w4 hown3 hgrow3 hat3 hlt3; have HO3 := hide (snoc6 rfl hown3); have HB3 := hide (push_below HO2.out HB2.out hgrow3); have hz3 := HB3.out.size; clear hown3 hgrow3 hat3 hlt3)
              go_roundw
              case rel => exact ⟨i + 1, _, _, by omega, by go_num, rfl, len6 (by simp) HO3.out, HB3.out, by simp; omega, HX2⟩
              case measure => simp [intOf]; omega
          · have hix2 : i = x.length := by omega
            have HX2 : Hid (tx = Pl.joinE (its.take (k + 1))) := by
              show _ = _
              rw [HX.out, hix2, List.take_length]
              exact HPre.out
            clear hix2 hO2 hB2
            go_wp2
            go_roundw
            case rel => exact ⟨k + 1, tx, e2, by omega, by go_num, rfl, HO2.out, HB2.out, HX2⟩
            case measure => simp [intOf]; omega
      · have hk1 : (0 : Int) < (k : Int) := by omega
        obtain ⟨pre, hpre⟩ : ∃ pre : List Int, pre = txt ++ [44] := ⟨_, rfl⟩
        have HPre : Hid (pre ++ Pl.esc x = Pl.joinE (its.take (k + 1))) := by
          show _ = _
          rw [hpre, HP.out, X.out]
          exact join_step hlt (by omega)
        have hpl : pre.length = txt.length + 1 := by rw [hpre]; simp
        have hxl2 : (pre.length + 2 * x.length) / 4194306 = 0 := by omega
        have HPR := hide hpre
        clear hk0 hpre hpl
        go_wp2_with (at_builtin; refine wpList_append_lies _ (by rfl) (.tmp 15) (.tmp 16) 22 (by rfl) w.heap.size 5 i5 (.int .u8 0) 1 1 Try.underlying22 hi5 hz50 hz51 hz52 rfl (by decide) e (txt.length) (txt.map (Value.int .u8)) (by rfl) (HO.out.alloc _) ⟨wr.heap.size, 0, none⟩ 1 1 [.int .u8 44] (by rfl) (by rfl) (World.news_of_block (cs := #[.int .u8 44]) (t := 5) (fr := (0, 0)) (heap_alloc_new wr _)) (by simp [Value.oneCell']) (by omega) (by unfold maxLen; omega) (by omega) (by simp; omega) (wr.heap.size + 1) (by simp) ?_; intro gg0 cp0 wq hown0 hgrow0 hat0 hlt0; have HO0 := hide (snoc6 rfl hown0); have HB0 := hide (push_below HO.out HB.out hgrow0); have hz0 := HB0.out.size; have HOQ := hide (pre_own HPR.out HO0.out); have g4 := (HB0.out.cell (p := ⟨b, o + k, none⟩) HT.out.1).trans G0.out; rw [← X.out] at g4; clear hown0 hgrow0 hat0 hlt0)
        go_loopw [3, 6] (fun v j w2 => ∃ (i : Nat) (tx : List Int) (e2 : Value), i ≤ x.length ∧ j = .int .i64 i ∧ e2 = v ∧ w2.ownsRow w.heap.size 5 1 e2 tx.length (tx.map (Value.int .u8)) ∧ Below w.heap.size w w2 ∧ tx.length ≤ pre.length + 2 * i ∧ Hid (tx = pre ++ Pl.esc (x.take i))) (fun _ j _ => x.length - (intOf j).toNat)
        case atStart => exact ⟨0, pre, _, Nat.zero_le _, rfl, rfl, HOQ.out, HB0.out, by omega, (by simp [Pl.esc] : pre = pre ++ Pl.esc [])⟩
        case round =>
          obtain ⟨i, tx, e2, hix, rfl, rfl, hO2, hB2, htl, HX⟩ := hrel
          have HO2 := hide hO2
          have HB2 := hide hB2
          have hs2 := hB2.size
          by_cases hlt2 : i < x.length
          · obtain ⟨d, hd⟩ : ∃ d, d = x.getD i 0 := ⟨_, rfl⟩
            obtain ⟨b2, o2, rfl⟩ : ∃ b2 o2, a = some ⟨b2, o2, none⟩ := by
              rcases TX.out.len_lt with r | r
              · rw [r] at hlt2; simp at hlt2
              · exact r
            have g2 := TX.out.at hlt2 hB2
            rw [← hd] at g2
            have HX1 : Hid (tx ++ Pl.esc1 d = pre ++ Pl.esc (x.take (i + 1))) := by
              show _ = _
              rw [HX.out, takeI_snoc hlt2, Pl.esc_snoc, ← hd, List.append_assoc]
            have D := hide hd
            clear hd hO2 hB2
            by_cases hes : d = 44 ∨ d = 92
            · have HX2 : Hid (tx ++ [92] ++ [d] = pre ++ Pl.esc (x.take (i + 1))) := by
                show _ = _
                rw [← HX1.out, Pl.esc1, if_pos hes, List.append_assoc]
                rfl
              rcases hes with hc1 | hc1
              · have d1 : (d == 44) = true := beq_iff_eq.2 hc1
                clear hc1
                go_wp2_with (first | (at_builtin; refine wpList_append_lies _ (by rfl) (.tmp 40) (.tmp 41) 22 (by rfl) w.heap.size 5 i5 (.int .u8 0) 1 1 Try.underlying22 hi5 hz50 hz51 hz52 rfl (by decide) e2 (tx.length) (tx.map (Value.int .u8)) (by rfl) (HO2.out.alloc _) ⟨wr.heap.size, 0, none⟩ 1 1 [.int .u8 92] (by rfl) (by rfl) (World.news_of_block (cs := #[.int .u8 92]) (t := 5) (fr := (0, 0)) (heap_alloc_new wr _)) (by simp [Value.oneCell']) (by omega) (by unfold maxLen; omega) (by omega) (by simp; omega) (wr.heap.size + 1) (by simp) ?_; intro gg1 cp1 w3 hown1 hgrow1 hat1 hlt1; have HO1 := hide (snoc6 rfl hown1); have HB1 := hide (push_below HO2.out HB2.out hgrow1); have hz1 := HB1.out.size; have g3 := TX.out.at hlt2 HB1.out; rw [← D.out] at g3; clear hown1 hgrow1 hat1 hlt1) | (at_builtin; refine wpList_append_lies _ (by rfl) (.tmp 43) (.tmp 48) 22 (by rfl) w.heap.size 5 i5 (.int .u8 0) 1 1 Try.underlying22 hi5 hz50 hz51 hz52 rfl (by decide) (.slice (some ⟨gg1, 0, none⟩) (tx.length + 1) cp1) (tx.length + 1) ((tx ++ [92]).map (Value.int .u8)) (by rfl) (HO1.out.alloc _) ⟨w3.heap.size, 0, none⟩ 1 1 [.int .u8 d] (by rfl) (by rfl) (World.news_of_block (cs := #[.int .u8 d]) (t := 5) (fr := (0, 0)) (heap_alloc_new w3 _)) (by simp [Value.oneCell']) (by omega) (by unfold maxLen; omega) (by omega) (by simp; omega) (w3.heap.size + 1) (by simp) ?_; intro gg3 cp3 w4 hown3 hgrow3 hat3 hlt3; have HO3 := hide (snoc6 (by simp) hown3); have HB3 := hide (push_below HO1.out HB1.out hgrow3); have hz3 := HB3.out.size; clear hown3 hgrow3 hat3 hlt3))
                go_roundw
                case rel => exact ⟨i + 1, _, _, by omega, by go_num, rfl, len6 (by simp) HO3.out, HB3.out, by simp; omega, HX2⟩
                case measure => simp [intOf]; omega
              · have d1 : (d == 44) = false := beq_eq_false_iff_ne.2 (by omega)
                have d2 : (d == 92) = true := beq_iff_eq.2 hc1
                clear hc1
                go_wp2_with (first | (at_builtin; refine wpList_append_lies _ (by rfl) (.tmp 40) (.tmp 41) 22 (by rfl) w.heap.size 5 i5 (.int .u8 0) 1 1 Try.underlying22 hi5 hz50 hz51 hz52 rfl (by decide) e2 (tx.length) (tx.map (Value.int .u8)) (by rfl) (HO2.out.alloc _) ⟨wr.heap.size, 0, none⟩ 1 1 [.int .u8 92] (by rfl) (by rfl) (World.news_of_block (cs := #[.int .u8 92]) (t := 5) (fr := (0, 0)) (heap_alloc_new wr _)) (by simp [Value.oneCell']) (by omega) (by unfold maxLen; omega) (by omega) (by simp; omega) (wr.heap.size + 1) (by simp) ?_; intro gg1 cp1 w3 hown1 hgrow1 hat1 hlt1; have HO1 := hide (snoc6 rfl hown1); have HB1 := hide (push_below HO2.out HB2.out hgrow1); have hz1 := HB1.out.size; have g3 := TX.out.at hlt2 HB1.out; rw [← D.out] at g3; clear hown1 hgrow1 hat1 hlt1) | (at_builtin; refine wpList_append_lies _ (by rfl) (.tmp 43) (.tmp 48) 22 (by rfl) w.heap.size 5 i5 (.int .u8 0) 1 1 Try.underlying22 hi5 hz50 hz51 hz52 rfl (by decide) (.slice (some ⟨gg1, 0, none⟩) (tx.length + 1) cp1) (tx.length + 1) ((tx ++ [92]).map (Value.int .u8)) (by rfl) (HO1.out.alloc _) ⟨w3.heap.size, 0, none⟩ 1 1 [.int .u8 d] (by rfl) (by rfl) (World.news_of_block (cs := #[.int .u8 d]) (t := 5) (fr := (0, 0)) (heap_alloc_new w3 _)) (by simp [Value.oneCell']) (by omega) (by unfold maxLen; omega) (by omega) (by simp; omega) (w3.heap.size + 1) (by simp) ?_; intro gg3 cp3 w4 hown3 hgrow3 hat3 hlt3; have HO3 := hide (snoc6 (by simp) hown3); have HB3 := hide (push_below HO1.out HB1.out hgrow3); have hz3 := HB3.out.size; clear hown3 hgrow3 hat3 hlt3))
                go_roundw
                case rel => exact ⟨i + 1, _, _, by omega, by go_num, rfl, len6 (by simp) HO3.out, HB3.out, by simp; omega, HX2⟩
                case measure => simp [intOf]; omega
            · have HX2 : Hid (tx ++ [d] = pre ++ Pl.esc (x.take (i + 1))) := by
                show _ = _
                rw [← HX1.out, Pl.esc1, if_neg hes]
              have d1 : (d == 44) = false := beq_eq_false_iff_ne.2 (by omega)
              have d2 : (d == 92) = false := beq_eq_false_iff_ne.2 (by omega)
              clear hes
              go_wp2_with (at_builtin; refine wpList_append_lies _ (by rfl) (.tmp 43) (.tmp 48) 22 (by rfl) w.heap.size 5 i5 (.int .u8 0) 1 1 Try.underlying22 hi5 hz50 hz51 hz52 rfl (by decide) e2 (tx.length) (tx.map (Value.int .u8)) (by rfl) (HO2.out.alloc _) ⟨wr.heap.size, 0, none⟩ 1 1 [.int .u8 d] (by rfl) (by rfl) (World.news_of_block (cs := #[.int .u8 d]) (t := 5) (fr := (0, 0)) (heap_alloc_new wr _)) (by simp [Value.oneCell']) (by omega) (by unfold maxLen; omega) (by omega) (by simp; omega) (wr.heap.size + 1) (by simp) ?_; intro gg3 cp3 w4 hown3 hgrow3 hat3 hlt3; have HO3 := hide (snoc6 rfl hown3); have HB3 := hide (push_below HO2.out HB2.out hgrow3); have hz3 := HB3.out.size; clear hown3 hgrow3 hat3 hlt3)
              go_roundw
              case rel => exact ⟨i + 1, _, _, by omega, by go_num, rfl, len6 (by simp) HO3.out, HB3.out, by simp; omega, HX2⟩
              case measure => simp [intOf]; omega
          · have hix2 : i = x.length := by omega
            have HX2 : Hid (tx = Pl.joinE (its.take (k + 1))) := by
              show _ = _
              rw [HX.out, hix2, List.take_length]
              exact HPre.out
            clear hix2 hO2 hB2
            go_wp2
            go_roundw
            case rel => exact ⟨k + 1, tx, e2, by omega, by go_num, rfl, HO2.out, HB2.out, HX2⟩
            case measure => simp [intOf]; omega
    · have hkn : its.take k = its := List.take_of_length_le (by omega)
      have HP2 : Hid (txt = Pl.joinE its) := by
        show _ = _
        rw [HP.out, hkn]
      clear hkn hO hB
      go_wp2
      go_ret
      refine ⟨_, rfl, HB.out, ?_⟩
      rw [← HP2.out]
      exact HO.out

end Go.Proofs.Qxb6603816a
