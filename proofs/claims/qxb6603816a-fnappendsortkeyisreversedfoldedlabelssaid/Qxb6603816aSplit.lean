/-
  splitValueList (25), ZZSplitValueList (9): a new slice of byte slices that reads 'spl'.
-/
import Derived.Test.Qxb6603816aMem
import Derived.Deep.RegionLaw
namespace Go.Proofs.Qxb6603816a
open Go.RowKit

/-- The state of the loop: what lies in memory in the middle of it. -/
structure St (w wr : World) (g cap m : Nat) (es : List Value) (e : Value) (H : Nat) (done : List (List Int)) (last : List Int) : Prop where
  bel : Below w.heap.size w wr
  len : es.length = m
  items : wr.ownsRow w.heap.size 22 1 (.slice (some ⟨g, 0, none⟩) (m + 1) cap) (m + 1) (es ++ [e])
  done : Done wr H es done
  own : Own wr H e last
  lo : w.heap.size ≤ H
  hi : H ≤ wr.heap.size

theorem St.cell {w wr : World} {g cap m : Nat} {es : List Value} {e : Value} {H : Nat} {done : List (List Int)} {last : List Int} (h : St w wr g cap m es e H done last) : wr.cell? ⟨g, m, none⟩ = some e := by
  rw [h.items.cellAt m (by omega)]
  simp [← h.len]
theorem St.free {w wr : World} {g cap m : Nat} {es : List Value} {e : Value} {H : Nat} {done : List (List Int)} {last : List Int} (h : St w wr g cap m es e H done last) : wr.frozen? ⟨g, m, none⟩ = false := h.items.frozenAt m

theorem drop_at {t : List Int} {k : Nat} (h : k < t.length) : t.drop k = t.getD k 0 :: t.drop (k + 1) := by
  rw [List.drop_eq_getElem_cons h]
  simp [List.getD, h]

section
variable {w wr wA w1 : World} {g cap m : Nat} {es : List Value} {e : Value} {H : Nat} {done : List (List Int)} {last : List Int}

/-- At the start: one item, nil. -/
theorem St.start (w : World) : St w (w.alloc (.cells #[.slice none 0 0] 22)) w.heap.size 1 0 [] (.slice none 0 0) w.heap.size [] [] :=
  ⟨(Below.refl _ w).alloc (Nat.le_refl _) _, rfl, World.ownsRow_lit w #[.slice none 0 0] 1 (Nat.le_refl _) (by decide) rfl, Done.nil _ _, Own.nil _ _, Nat.le_refl _, by simp⟩

/-- A comma: the item is done, the next one is nil. -/
theorem St.comma (h : St w wr g cap m es e H done last) (hA : Below wr.heap.size wr wA) {gg cp : Nat} (hown : w1.ownsRow w.heap.size 22 1 (.slice (some ⟨gg, 0, none⟩) (m + 1 + 1) cp) (m + 1 + 1) (es ++ [e] ++ [.slice none 0 0]))
    (hgrow : wA.grownBy w1 (some g)) : St w w1 gg cp (m + 1) (es ++ [e]) (.slice none 0 0) w1.heap.size (done ++ [last]) [] := by
  obtain ⟨r1, r2, cur, r3⟩ := row_of h.items
  have hs := hA.size
  have hs1 := hgrow.size
  have hs0 := h.bel.size
  have hsame : ∀ (b : Nat) (c : Array Value), wr.heap[b]? = some (.cells c 5 (0, 0)) → w1.heap[b]? = wr.heap[b]? := fun b c hc => by
    have hlt := lt_of_block hc
    have hne := rows_apart r3 hc
    rw [hgrow.block b (by omega) (by simpa using hne), hA.block b hlt]
  have hbel : Below w.heap.size w w1 := (h.bel.trans (hA.mono hs0)).grown hgrow (by omega) (fun k hk => by cases hk; exact r1)
  refine ⟨hbel, by simp [h.len], hown, ?_, Own.nil _ _, by have := hbel.size; omega, Nat.le_refl _⟩
  have hd : Done w1 w1.heap.size es done := (h.done.mono (by have := h.hi; omega)).kept (fun b c hb hc => hsame b c hc)
  refine hd.snoc ((h.own.kept (fun b c hb hc => hsame b c hc)).mono (Nat.zero_le _)) (fun b hb => ?_)
  have := (h.own.block hb).2.1
  omega

/-- At the end: all items, the last one too. -/
theorem St.fin (h : St w wr g cap m es e H done last) : Items wr w.heap.size (.slice (some ⟨g, 0, none⟩) (m + 1) cap) (done ++ [last]) := by
  have e1 : (done ++ [last]).length = m + 1 := by simp [← h.done.1, h.len]
  refine ⟨es ++ [e], by rw [e1]; exact h.items, (h.done.mono h.hi).snoc (h.own.mono (Nat.zero_le _)) (fun b hb => (h.own.block hb).2.1)⟩

/-- A byte: it is appended to the last item, and that is stored back. -/
theorem St.push (h : St w wr g cap m es e H done last) (hA : Below wr.heap.size wr wA) {gg cp : Nat} {c : Int} (hown : w1.ownsRow H 5 1 (.slice (some ⟨gg, 0, none⟩) (last.length + 1) cp) (last.length + 1) (last.map (Value.int .u8) ++ [.int .u8 c]))
    (hgrow : wA.grownBy w1 e.ownBlock) : w1.cell? ⟨g, m, none⟩ = some e ∧ w1.frozen? ⟨g, m, none⟩ = false ∧ St w (w1.setCell ⟨g, m, none⟩ (.slice (some ⟨gg, 0, none⟩) (last.length + 1) cp)) g cap m es (.slice (some ⟨gg, 0, none⟩) (last.length + 1) cp) H done (last ++ [c]) := by
  obtain ⟨r1, r2, cur, r3⟩ := row_of h.items
  obtain ⟨q1, q2, cur2, q3⟩ := row_of hown
  have hs := hA.size
  have hs1 := hgrow.size
  have hs0 := h.bel.size
  have hge : some g ≠ e.ownBlock := fun hh => by
    obtain ⟨_, _, c2, hc2⟩ := h.own.block hh.symm
    exact rows_apart r3 hc2 rfl
  have hg1 : w1.heap[g]? = wr.heap[g]? := by rw [hgrow.block g (by omega) hge, hA.block g r2]
  have hit : w1.ownsRow w.heap.size 22 1 (.slice (some ⟨g, 0, none⟩) (m + 1) cap) (m + 1) (es ++ [e]) := by
    refine ⟨h.items.1, ?_⟩
    rcases h.items.2 with ⟨h', _⟩ | ⟨g', cap', cur', h', y2, y3, y4⟩
    · simp at h'
    · simp only [Value.slice.injEq, Option.some.injEq, Addr.mk.injEq, and_true, true_and] at h'
      obtain ⟨rfl, rfl⟩ := h'
      exact .inr ⟨g, cap, cur', rfl, y2, hg1.trans y3, y4⟩
  have hgg : gg ≠ g := rows_apart (hg1.trans r3) q3
  have hbel1 : Below w.heap.size w w1 := (h.bel.trans (hA.mono hs0)).grown hgrow (by omega) (fun k hk => by have := (h.own.block hk).1; have := h.lo; omega)
  have hst := hit.stored m (.slice (some ⟨gg, 0, none⟩) (last.length + 1) cp)
  refine ⟨?_, hit.frozenAt m, hbel1.setCell r1 _, h.len, ?_, ?_, ?_, h.lo, ?_⟩
  · rw [hit.cellAt m (by omega)]; simp [← h.len]
  · have e1 : (es ++ [e]).set m (.slice (some ⟨gg, 0, none⟩) (last.length + 1) cp) = es ++ [.slice (some ⟨gg, 0, none⟩) (last.length + 1) cp] := by
      rw [List.set_append_right _ _ (by rw [h.len]; exact Nat.le_refl _), h.len, Nat.sub_self]
      rfl
    rw [← e1]
    exact hst.1
  · refine h.done.kept (fun b c hb hc => ?_)
    have hlt := lt_of_block hc
    have hne := rows_apart r3 hc
    rw [heap_setCell_other w1 _ b _ hne, hgrow.block b (by omega) (fun hh => by have := (h.own.block hh.symm).1; omega), hA.block b hlt]
  · refine ⟨?_, fun hh => by simp at hh⟩
    have e2 : (last ++ [c]).length = last.length + 1 := by simp
    have e3 : (last ++ [c]).map (Value.int .u8) = last.map (Value.int .u8) ++ [.int .u8 c] := by simp
    rw [e2, e3]
    refine ownsRow_setCell_other hown (by simpa [Value.ownBlock] using hgg) _
  · have := h.hi
    simp [World.setCell]
    omega
end

set_option maxHeartbeats 1600000 in
set_option maxRecDepth 100000 in
theorem split_some (b o cap0 : Nat) (t : List Int) (w : World) (hl : t.length / 1099511627776 = 0) (h0 : 0 < t.length) (hb : b < w.heap.size) (hc : ∀ j, j < t.length → w.cell? ⟨b, o + j, none⟩ = some (.int .u8 (t.getD j 0))) :
    Calls Try.prog 25 #[.slice (some ⟨b, o, none⟩) t.length cap0] w fun e w' => ∃ v, e = .returned v ∧ Below w.heap.size w w' ∧ Items w' w.heap.size v (Pl.spl t [] []) := by
  obtain ⟨i5, hi5, hz50, hz51, hz52⟩ := info_parts Try.info5
  obtain ⟨i22, hi22, hz220, hz221, hz222⟩ := info_parts Try.info22
  have HC := hide hc
  clear hc
  go_enter Try.func25, Try.ntmps25
  go_wp2
  go_loopw [3, 4] (fun v i wr => ∃ (k g cap m : Nat) (es : List Value) (e : Value) (H : Nat) (done : List (List Int)) (last : List Int), k ≤ t.length ∧ i = .int .i64 k ∧ v = .slice (some ⟨g, 0, none⟩) (m + 1) cap ∧ St w wr g cap m es e H done last ∧ m ≤ k ∧ last.length ≤ k ∧ Hid (Pl.spl (t.drop k) done last = Pl.spl t [] [])) (fun _ i _ => t.length - (intOf i).toNat)
  case atStart =>
    exact ⟨0, w.heap.size, 1, 0, [], _, w.heap.size, [], [], Nat.zero_le _, rfl, rfl, St.start w, Nat.le_refl _, Nat.le_refl _, rfl⟩
  case round =>
    obtain ⟨k, g, cap, m, es, e, H, done, last, hk, rfl, rfl, hS, hm, hla, HP⟩ := hrel
    by_cases hlt : k < t.length
    · obtain ⟨c, hcc⟩ : ∃ c, c = t.getD k 0 := ⟨_, rfl⟩
      have hct : wr.cell? ⟨b, o + k, none⟩ = some (.int .u8 c) := by rw [hcc, ← HC.out k hlt]; exact hS.bel.cell (p := ⟨b, o + k, none⟩) hb
      have HCC := hide hcc
      clear hcc
      have g1 := hS.cell
      have g2 := hS.free
      have g3 : ∀ X, (wr.alloc X).cell? ⟨g, m, none⟩ = some e := fun X => (((Below.refl _ wr).alloc (Nat.le_refl _) X).cell (p := ⟨g, m, none⟩) (block_lt_of_cell g1)).trans g1
      by_cases h44 : c = 44
      · have d1 : (c == 44) = true := beq_iff_eq.2 h44
        have HS := hide hS
        clear h44 hS
        go_wp2_with (at_builtin; refine wpList_append_lies _ (by rfl) (.tmp 35) (.tmp 36) 25 (by rfl) w.heap.size 22 i22 (.slice none 0 0) 1 24 Try.underlying25 hi22 hz220 hz221 hz222 rfl (by decide) (.slice (some ⟨g, 0, none⟩) (m + 1) cap) (m + 1) (es ++ [e]) (by rfl) (HS.out.items.alloc _) ⟨wr.heap.size, 0, none⟩ 1 1 [.slice none 0 0] (by rfl) (by rfl) (World.news_of_block (cs := #[.slice none 0 0]) (t := 22) (fr := (0, 0)) (heap_alloc_new wr _)) (by simp [Value.oneCell']) (by omega) (by unfold maxLen; omega) (by omega) (by have := HS.out.bel.size; simp; omega) (wr.heap.size + 1) (by simp) ?_; intro gg cp w1 hown1 hgrow hat hlt1)
        have hS1 := HS.out.comma ((Below.refl _ wr).alloc (Nat.le_refl _) _) hown1 hgrow
        have HP1 : Hid (Pl.spl (t.drop (k + 1)) (done ++ [last]) [] = Pl.spl t [] []) := by
          show _ = _
          rw [← HP.out, drop_at hlt, ← HCC.out, Pl.spl_comma c (beq_iff_eq.1 d1)]
        go_roundw
        case rel => exact ⟨k + 1, gg, cp, m + 1, _, _, _, _, _, by omega, by go_num, rfl, hS1, by omega, Nat.zero_le _, HP1⟩
        case measure => simp [intOf]; omega
      · have d1 : (c == 44) = false := beq_eq_false_iff_ne.2 h44
        have HS := hide hS
        by_cases h92 : c = 92 ∧ k + 1 < t.length
        · obtain ⟨h92, hlt2⟩ := h92
          have d4 : (c == 92) = true := beq_iff_eq.2 h92
          have d5 : decide ((k : Int) + 1 < (t.length : Int)) = true := decide_eq_true (by omega)
          obtain ⟨d, hdd⟩ : ∃ d, d = t.getD (k + 1) 0 := ⟨_, rfl⟩
          have hdt : wr.cell? ⟨b, o + (k + 1), none⟩ = some (.int .u8 d) := by rw [hdd, ← HC.out (k + 1) hlt2]; exact hS.bel.cell (p := ⟨b, o + (k + 1), none⟩) hb
          have HP1 : Hid (Pl.spl (t.drop (k + 2)) done (last ++ [d]) = Pl.spl t [] []) := by
            show _ = _
            rw [← HP.out, drop_at hlt, drop_at hlt2, ← HCC.out, ← hdd, Pl.spl_esc c h92]
          have q1 : (m : Int) < (m : Int) + 1 := by omega
          have q2 : (k : Int) + 1 < (t.length : Int) := by omega
          have q3 : (0 : Int) ≤ (k : Int) + 1 := by omega
          clear h92 h44 hS hdd
          go_wp2_with fail
          go_region_law (refine step_append_lies _ (by rfl) (.tmp 58) (.tmp 63) 22 (by rfl) H 5 i5 (.int .u8 0) 1 1 Try.underlying22 hi5 hz50 hz51 hz52 rfl (by decide) e last.length (last.map (Value.int .u8)) (by rfl) ((HS.out.own.1.alloc _).drew) ⟨wr.heap.size, 0, none⟩ 1 1 [.int .u8 d] (by rfl) (by rfl) (World.news_of_block (cs := #[.int .u8 d]) (t := 5) (fr := (0, 0)) (heap_alloc_new wr _)) (by simp [Value.oneCell']) (by omega) (by unfold maxLen; omega) (by omega) (by have := HS.out.hi; simp; omega) (wr.heap.size + 1) (by simp) ?_; intro gg cp w1 hown1 hgrow hat hlt1; obtain ⟨p1, p2, p3⟩ := HS.out.push (((Below.refl _ wr).alloc (Nat.le_refl _) _).drew) hown1 hgrow; have P3 := hide p3; clear p3 hown1 hgrow hat hlt1)
          all_goals
            go_wp2
            go_roundw
            case rel => exact ⟨k + 2, g, cap, m, _, _, H, done, last ++ [d], by omega, by go_num, rfl, P3.out, by omega, by simp; omega, HP1⟩
            case measure => simp [intOf]; omega
        · have HP1 : Hid (Pl.spl (t.drop (k + 1)) done (last ++ [c]) = Pl.spl t [] []) := by
            show _ = _
            rw [← HP.out, drop_at hlt, ← HCC.out, Pl.spl_plain c _ h44]
            by_cases h : c = 92
            · exact .inr (List.drop_eq_nil_of_le (by omega))
            · exact .inl h
          have q1 : (m : Int) < (m : Int) + 1 := by omega
          have q2 : (k : Int) < (t.length : Int) := by omega
          by_cases h92' : c = 92
          · have d4 : (c == 92) = true := beq_iff_eq.2 h92'
            have d5 : decide ((k : Int) + 1 < (t.length : Int)) = false := decide_eq_false (by omega)
            clear h92' h92 h44 hS
            go_wp2_with fail
            go_region_law (refine step_append_lies _ (by rfl) (.tmp 21) (.tmp 26) 22 (by rfl) H 5 i5 (.int .u8 0) 1 1 Try.underlying22 hi5 hz50 hz51 hz52 rfl (by decide) e last.length (last.map (Value.int .u8)) (by rfl) ((HS.out.own.1.alloc _).drew) ⟨wr.heap.size, 0, none⟩ 1 1 [.int .u8 c] (by rfl) (by rfl) (World.news_of_block (cs := #[.int .u8 c]) (t := 5) (fr := (0, 0)) (heap_alloc_new wr _)) (by simp [Value.oneCell']) (by omega) (by unfold maxLen; omega) (by omega) (by have := HS.out.hi; simp; omega) (wr.heap.size + 1) (by simp) ?_; intro gg cp w1 hown1 hgrow hat hlt1; obtain ⟨p1, p2, p3⟩ := HS.out.push (((Below.refl _ wr).alloc (Nat.le_refl _) _).drew) hown1 hgrow; have P3 := hide p3; clear p3 hown1 hgrow hat hlt1)
            all_goals
              go_wp2
              go_roundw
              case rel => exact ⟨k + 1, g, cap, m, _, _, H, done, last ++ [c], by omega, by go_num, rfl, P3.out, by omega, by simp; omega, HP1⟩
              case measure => simp [intOf]; omega
          · have d4 : (c == 92) = false := beq_eq_false_iff_ne.2 h92'
            clear h92' h92 h44 hS
            go_wp2_with fail
            go_region_law (refine step_append_lies _ (by rfl) (.tmp 21) (.tmp 26) 22 (by rfl) H 5 i5 (.int .u8 0) 1 1 Try.underlying22 hi5 hz50 hz51 hz52 rfl (by decide) e last.length (last.map (Value.int .u8)) (by rfl) ((HS.out.own.1.alloc _).drew) ⟨wr.heap.size, 0, none⟩ 1 1 [.int .u8 c] (by rfl) (by rfl) (World.news_of_block (cs := #[.int .u8 c]) (t := 5) (fr := (0, 0)) (heap_alloc_new wr _)) (by simp [Value.oneCell']) (by omega) (by unfold maxLen; omega) (by omega) (by have := HS.out.hi; simp; omega) (wr.heap.size + 1) (by simp) ?_; intro gg cp w1 hown1 hgrow hat hlt1; obtain ⟨p1, p2, p3⟩ := HS.out.push (((Below.refl _ wr).alloc (Nat.le_refl _) _).drew) hown1 hgrow; have P3 := hide p3; clear p3 hown1 hgrow hat hlt1)
            all_goals
              go_wp2
              go_roundw
              case rel => exact ⟨k + 1, g, cap, m, _, _, H, done, last ++ [c], by omega, by go_num, rfl, P3.out, by omega, by simp; omega, HP1⟩
              case measure => simp [intOf]; omega
    · have hkn : k = t.length := by omega
      have HP2 : Hid (done ++ [last] = Pl.spl t [] []) := by
        show _ = _
        rw [← HP.out, hkn, List.drop_length, Pl.spl_nil]
      have HS := hide hS
      clear hS
      go_wp2
      go_ret
      refine ⟨_, rfl, HS.out.bel, ?_⟩
      rw [← HP2.out]
      exact HS.out.fin

/-- splitValueList of an empty text, nil or not. -/
theorem split_none (a : Option Addr) (cap0 : Nat) (w : World) :
    Calls Try.prog 25 #[.slice a 0 cap0] w fun e w' => ∃ v, e = .returned v ∧ Below w.heap.size w w' ∧ Items w' w.heap.size v (Pl.spl [] [] []) := by
  go_enter Try.func25, Try.ntmps25
  go_wp2
  refine wp_loop_rounds 1 ?_
  rw [rounds_succ]
  go_wp2
  go_ret
  exact ⟨_, rfl, (St.start w).bel, (St.start w).fin⟩

/-- A text: empty, or bytes that lie in a block that is there. -/
def Txt (w : World) (a : Option Addr) (t : List Int) : Prop := t = [] ∨ ∃ b o, a = some ⟨b, o, none⟩ ∧ b < w.heap.size ∧ ∀ j, j < t.length → w.cell? ⟨b, o + j, none⟩ = some (.int .u8 (t.getD j 0))

theorem split_any (a : Option Addr) (cap0 : Nat) (t : List Int) (w : World) (hl : t.length / 1099511627776 = 0) (h : Txt w a t) :
    Calls Try.prog 25 #[.slice a t.length cap0] w fun e w' => ∃ v, e = .returned v ∧ Below w.heap.size w w' ∧ Items w' w.heap.size v (Pl.spl t [] []) := by
  rcases Nat.eq_zero_or_pos t.length with h0 | h0
  · obtain rfl := List.eq_nil_of_length_eq_zero h0
    exact split_none a cap0 w
  · rcases h with rfl | ⟨b, o, rfl, hb, hc⟩
    · simp at h0
    · exact split_some b o cap0 t w hl h0 hb hc

theorem zzSplit_any (a : Option Addr) (cap0 : Nat) (t : List Int) (w : World) (hl : t.length / 1099511627776 = 0) (h : Txt w a t) :
    Calls Try.prog 9 #[.slice a t.length cap0] w fun e w' => ∃ v, e = .returned v ∧ Below w.heap.size w w' ∧ Items w' w.heap.size v (Pl.spl t [] []) := by
  have HT := hide h
  clear h
  go_enter Try.func9, Try.ntmps9
  go_wp2_with fail
  refine (split_any a cap0 t _ hl HT.out).mono ?_
  rintro e w' ⟨v, rfl, h⟩
  have H := hide h
  clear h
  go_wp2
  go_ret
  exact ⟨_, rfl, H.out⟩

end Go.Proofs.Qxb6603816a
