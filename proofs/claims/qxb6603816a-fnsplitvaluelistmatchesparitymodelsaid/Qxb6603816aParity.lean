/-
  zzb1SplitByParity (10): a new slice of byte slices that reads 'par'.
-/
import Derived.Test.Qxb6603816aUnesc
namespace Go.Proofs.Qxb6603816a
open Go.RowKit

/-- One byte slice more: appended to a slice of byte slices. -/
theorem Items.snoc {wr w1 wA w2 : World} {base B : Nat} {v e2 : Value} {outl : List (List Int)} {es : List Value} {l : List Int} (h1 : wr.ownsRow base 22 1 v outl.length es) (h2 : Done wr wr.heap.size es outl)
    (hb : Below wr.heap.size wr w1) (ho : Own w1 B e2 l) (hA : Below w1.heap.size w1 wA) {gg cp : Nat} (hown : w2.ownsRow base 22 1 (.slice (some ⟨gg, 0, none⟩) (outl.length + 1) cp) (outl.length + 1) (es ++ [e2])) (hgrow : wA.grownBy w2 v.ownBlock) :
    Items w2 base (.slice (some ⟨gg, 0, none⟩) (outl.length + 1) cp) (outl ++ [l]) := by
  have s1 := hb.size
  have s2 := hA.size
  have s3 := hgrow.size
  have hrow : ∀ g, v.ownBlock = some g → ∃ cur, w1.heap[g]? = some (.cells cur 22 (0, 0)) ∧ g < wr.heap.size := fun g hg => by
    rcases h1.2 with ⟨rfl, _⟩ | ⟨g', cap, cur, rfl, _, r3, _⟩
    · cases hg
    · simp only [Value.ownBlock, Option.some.injEq] at hg
      subst hg
      exact ⟨cur, (hb.block _ (lt_of_block r3)).trans r3, lt_of_block r3⟩
  have hsame : ∀ (b : Nat) (c : Array Value), w1.heap[b]? = some (.cells c 5 (0, 0)) → w2.heap[b]? = w1.heap[b]? := fun b c hc => by
    have hlt := lt_of_block hc
    rw [hgrow.block b (by omega) (fun hh => by
      obtain ⟨cur, hcur, _⟩ := hrow b hh.symm
      exact rows_apart hcur hc rfl), hA.block b hlt]
  have e1 : (outl ++ [l]).length = outl.length + 1 := by simp
  refine ⟨es ++ [e2], by rw [e1]; exact hown, ?_⟩
  have d1 : Done w1 wr.heap.size es outl := h2.kept (fun b c hlt _ => hb.block b hlt)
  have d2 : Done w2 w2.heap.size es outl := (d1.kept (fun b c _ hc => hsame b c hc)).mono (by omega)
  refine d2.snoc ((ho.kept (fun b c _ hc => hsame b c hc)).mono (Nat.zero_le _)) (fun b hb' => ?_)
  have := (ho.block hb').2.1
  omega

theorem Own.slice {w : World} {base : Nat} {e : Value} {l : List Int} (h : Own w base e l) : ∃ a n c, e = .slice a n c := by
  rcases h.1.2 with ⟨rfl, _⟩ | ⟨g, cap, cur, rfl, _⟩
  · exact ⟨_, _, _, rfl⟩
  · exact ⟨_, _, _, rfl⟩
theorem ownsRow_below {w w1 : World} {base e n : Nat} {v : Value} {xs : List Value} (h : w.ownsRow base e 1 v n xs) (hb : Below w.heap.size w w1) : w1.ownsRow base e 1 v n xs := by
  refine ⟨h.1, ?_⟩
  rcases h.2 with r | ⟨g, cap, cur, r1, r2, r3, r4⟩
  · exact .inl r
  · exact .inr ⟨g, cap, cur, r1, r2, (hb.block g (lt_of_block r3)).trans r3, r4⟩
theorem ownsRow_lo {w : World} {base e n : Nat} {v : Value} {xs : List Value} (h : w.ownsRow base e 1 v n xs) {b : Nat} (hb : v.ownBlock = some b) : base ≤ b := (h.lt b hb).1

/-- The piece from place st up to place k. -/
def pc (t : List Int) (st k : Nat) : List Int := (t.drop st).take (k - st)
theorem pc_len {t : List Int} {st k : Nat} (h : st ≤ k) (hk : k ≤ t.length) : (pc t st k).length = k - st := by simp [pc]; omega
theorem pc_at {t : List Int} {st k j : Nat} (h : j < k - st) : (pc t st k).getD j 0 = t.getD (st + j) 0 := by
  simp only [pc, List.getD_eq_getElem?_getD, List.getElem?_take, List.getElem?_drop]
  rw [if_pos h]
theorem pc_nil (t : List Int) (k : Nat) : pc t k k = [] := by simp [pc]
theorem pc_snoc {t : List Int} {st k : Nat} (h : st ≤ k) (hk : k < t.length) : pc t st (k + 1) = pc t st k ++ [t.getD k 0] := by
  unfold pc
  rw [show k + 1 - st = (k - st) + 1 by omega, List.take_succ_eq_append_getElem (by simp; omega)]
  congr 2
  simp [List.getD, hk, show st + (k - st) = k by omega]
theorem pc_end {t : List Int} {st : Nat} : pc t st t.length = t.drop st := List.take_of_length_le (by simp)

theorem txt_pc {w wr : World} {b o st k : Nat} {t : List Int} (hB : Below w.heap.size w wr) (hb : b < w.heap.size) (hc : ∀ j, j < t.length → w.cell? ⟨b, o + j, none⟩ = some (.int .u8 (t.getD j 0))) (h : st ≤ k) (hk : k ≤ t.length) : Txt wr (some ⟨b, o + st, none⟩) (pc t st k) := by
  refine .inr ⟨b, o + st, rfl, by have := hB.size; omega, fun j hj => ?_⟩
  rw [pc_len h hk] at hj
  rw [pc_at hj, ← hc (st + j) (by omega), Nat.add_assoc]
  exact hB.cell (p := ⟨b, o + (st + j), none⟩) hb

set_option maxHeartbeats 1600000 in
set_option maxRecDepth 100000 in
theorem parity_some (b o cap0 : Nat) (t : List Int) (w : World) (hl : t.length / 1048577 = 0) (hcap : t.length ≤ cap0) (hb : b < w.heap.size) (hc : ∀ j, j < t.length → w.cell? ⟨b, o + j, none⟩ = some (.int .u8 (t.getD j 0))) :
    Calls Try.prog 10 #[.slice (some ⟨b, o, none⟩) t.length cap0] w fun e w' => ∃ v, e = .returned v ∧ Below w.heap.size w w' ∧ Items w' w.heap.size v (Pl.par t 0 [] []) := by
  obtain ⟨i22, hi22, hz220, hz221, hz222⟩ := info_parts Try.info22
  have HC := hide hc
  clear hc
  go_enter Try.func10, Try.ntmps10
  go_wp2
  go_loopw [3, 4, 5, 6] (fun v s r i wr => ∃ (k st q : Nat) (outl : List (List Int)) (e : Value), k ≤ t.length ∧ st ≤ k ∧ q ≤ k ∧ i = .int .i64 k ∧ s = .int .i64 st ∧ r = .int .i64 q ∧ e = v ∧ Items wr w.heap.size e outl ∧ Below w.heap.size w wr ∧ outl.length ≤ k ∧ Hid (Pl.par (t.drop k) q (pc t st k) outl = Pl.par t 0 [] [])) (fun _ _ _ i _ => t.length - (intOf i).toNat)
  case atStart => exact ⟨0, 0, 0, [], _, Nat.zero_le _, Nat.le_refl _, Nat.le_refl _, rfl, rfl, rfl, rfl, ⟨[], World.ownsRow_nil _ _ _ _, Done.nil _ _⟩, Below.refl _ _, Nat.le_refl _, rfl⟩
  case round =>
    obtain ⟨k, st, q, outl, e, hk, hst, hq, rfl, rfl, rfl, rfl, hI, hB, hol, HP⟩ := hrel
    obtain ⟨es, hI1, hI2⟩ := hI
    have HI1 := hide hI1
    have HI2 := hide hI2
    have HB := hide hB
    by_cases hlt : k < t.length
    · obtain ⟨c, hcc⟩ : ∃ c, c = t.getD k 0 := ⟨_, rfl⟩
      have hct : wr.cell? ⟨b, o + k, none⟩ = some (.int .u8 c) := by rw [hcc, ← HC.out k hlt]; exact hB.cell (p := ⟨b, o + k, none⟩) hb
      have HCC := hide hcc
      clear hcc hB hI1 hI2
      by_cases h92 : c = 92
      · have d1 : (c == 92) = true := beq_iff_eq.2 h92
        have HP1 : Hid (Pl.par (t.drop (k + 1)) (q + 1) (pc t st (k + 1)) outl = Pl.par t 0 [] []) := by
          show _ = _
          rw [← HP.out, pc_snoc hst hlt, drop_at hlt, ← HCC.out, Pl.par_esc c h92]
        clear h92
        go_wp2
        go_roundw
        case rel => exact ⟨k + 1, st, q + 1, outl, e, by omega, by omega, by omega, by go_num, rfl, by go_num, rfl, ⟨es, HI1.out, HI2.out⟩, HB.out, by omega, HP1⟩
        case measure => simp [intOf]; omega
      have d1 : (c == 92) = false := beq_eq_false_iff_ne.2 h92
      by_cases hsep : c = 44 ∧ q % 2 = 0
      · obtain ⟨h44, hq2⟩ := hsep
        have d2 : (c == 44) = true := beq_iff_eq.2 h44
        have d3 : ((q : Int) % 2 == 0) = true := beq_iff_eq.2 (by omega)
        clear h92 h44
        have HP1 : Hid (Pl.par (t.drop (k + 1)) 0 (pc t (k + 1) (k + 1)) (outl ++ [Pl.unesc (pc t st k)]) = Pl.par t 0 [] []) := by
          show _ = _
          rw [← HP.out, pc_nil, drop_at hlt, ← HCC.out, Pl.par_sep c (beq_iff_eq.1 d2) _ _ hq2]
        go_wp2_with fail
        refine (unesc_any _ _ _ (pc t st k) _ (pc_len hst hk).symm (by rw [pc_len hst hk]; omega) (txt_pc HB.out hb HC.out hst hk)).mono ?_
        rintro e1 w1 ⟨e2, rfl, hB1, hO1⟩
        obtain ⟨a2, n2, c2, rfl⟩ := hO1.slice
        have HB1 := hide hB1
        have HO1 := hide hO1
        have OW := hide (ownsRow_below HI1.out hB1)
        have hs0 := HB.out.size
        have hs1 := hB1.size
        clear hB1 hO1
        go_wp2_with (at_builtin; refine wpList_append_lies _ (by rfl) (.tmp 30) (.tmp 36) 25 (by rfl) w.heap.size 22 i22 (.slice none 0 0) 1 24 Try.underlying25 hi22 hz220 hz221 hz222 rfl (by decide) e outl.length es (by rfl) (OW.out.alloc _) ⟨w1.heap.size, 0, none⟩ 1 1 [.slice a2 n2 c2] (by rfl) (by rfl) (World.news_of_block (cs := #[.slice a2 n2 c2]) (t := 22) (fr := (0, 0)) (heap_alloc_new w1 _)) (by simp [Value.oneCell']) (by omega) (by unfold maxLen; omega) (by omega) (by simp; omega) (w1.heap.size + 1) (by simp) ?_; intro gg cp w2 hown2 hgrow hat hlt1)
        have hI := Items.snoc HI1.out HI2.out HB1.out HO1.out ((Below.refl _ w1).alloc (Nat.le_refl _) _) hown2 hgrow
        have hB2 : Below w.heap.size w w2 := ((HB.out.trans (HB1.out.mono hs0)).alloc (by omega) _).grown hgrow (by simp; omega) (fun b hb => ownsRow_lo HI1.out hb)
        go_roundw
        case rel => exact ⟨k + 1, k + 1, 0, _, _, by omega, by omega, by omega, by go_num, by go_num, rfl, rfl, hI, hB2, by simp; omega, HP1⟩
        case measure => simp [intOf]; omega
      · have HP1 : Hid (Pl.par (t.drop (k + 1)) 0 (pc t st (k + 1)) outl = Pl.par t 0 [] []) := by
          show _ = _
          rw [← HP.out, pc_snoc hst hlt, drop_at hlt, ← HCC.out, Pl.par_other c h92 _ _ hsep]
        by_cases h44 : c = 44
        · have d2 : (c == 44) = true := beq_iff_eq.2 h44
          have d3 : ((q : Int) % 2 == 0) = false := beq_eq_false_iff_ne.2 (by omega)
          clear h92 h44 hsep
          go_wp2
          go_roundw
          case rel => exact ⟨k + 1, st, 0, outl, e, by omega, by omega, by omega, by go_num, rfl, rfl, rfl, ⟨es, HI1.out, HI2.out⟩, HB.out, by omega, HP1⟩
          case measure => simp [intOf]; omega
        · have d2 : (c == 44) = false := beq_eq_false_iff_ne.2 h44
          clear h92 h44 hsep
          go_wp2
          go_roundw
          case rel => exact ⟨k + 1, st, 0, outl, e, by omega, by omega, by omega, by go_num, rfl, rfl, rfl, ⟨es, HI1.out, HI2.out⟩, HB.out, by omega, HP1⟩
          case measure => simp [intOf]; omega
    · have hkn : k = t.length := by omega
      have HP2 : Hid (outl ++ [Pl.unesc (pc t st k)] = Pl.par t 0 [] []) := by
        show _ = _
        rw [← HP.out, hkn, List.drop_length, Pl.par_nil]
      clear hB hI1 hI2
      have h1 : k ≤ t.length := by omega
      have h2 : t.length ≤ k := by omega
      clear hkn
      go_wp2_with fail
      · have hz : pc t st k = [] := List.eq_nil_of_length_eq_zero (by rw [pc_len hst hk]; omega)
        refine (unesc_any _ _ _ (pc t st k) _ (by rw [pc_len hst hk]; omega) (by rw [pc_len hst hk]; omega) (.inl hz)).mono ?_
        clear hz
        rintro e1 w1 ⟨e2, rfl, hB1, hO1⟩
        obtain ⟨a2, n2, c2, rfl⟩ := hO1.slice
        have HB1 := hide hB1
        have HO1 := hide hO1
        have OW := hide (ownsRow_below HI1.out hB1)
        have hs0 := HB.out.size
        have hs1 := hB1.size
        clear hB1 hO1
        go_wp2_with (at_builtin; refine wpList_append_lies _ (by rfl) (.tmp 40) (.tmp 45) 25 (by rfl) w.heap.size 22 i22 (.slice none 0 0) 1 24 Try.underlying25 hi22 hz220 hz221 hz222 rfl (by decide) e outl.length es (by rfl) (OW.out.alloc _) ⟨w1.heap.size, 0, none⟩ 1 1 [.slice a2 n2 c2] (by rfl) (by rfl) (World.news_of_block (cs := #[.slice a2 n2 c2]) (t := 22) (fr := (0, 0)) (heap_alloc_new w1 _)) (by simp [Value.oneCell']) (by omega) (by unfold maxLen; omega) (by omega) (by simp; omega) (w1.heap.size + 1) (by simp) ?_; intro gg cp w2 hown2 hgrow hat hlt1)
        have hI := Items.snoc HI1.out HI2.out HB1.out HO1.out ((Below.refl _ w1).alloc (Nat.le_refl _) _) hown2 hgrow
        have hB2 : Below w.heap.size w w2 := ((HB.out.trans (HB1.out.mono hs0)).alloc (by omega) _).grown hgrow (by simp; omega) (fun b hb => ownsRow_lo HI1.out hb)
        go_ret
        refine ⟨_, rfl, hB2, ?_⟩
        rw [← HP2.out]
        exact hI
      · refine (unesc_any _ _ _ (pc t st k) _ (by rw [pc_len hst hk]; omega) (by rw [pc_len hst hk]; omega) (txt_pc HB.out hb HC.out hst hk)).mono ?_
        rintro e1 w1 ⟨e2, rfl, hB1, hO1⟩
        obtain ⟨a2, n2, c2, rfl⟩ := hO1.slice
        have HB1 := hide hB1
        have HO1 := hide hO1
        have OW := hide (ownsRow_below HI1.out hB1)
        have hs0 := HB.out.size
        have hs1 := hB1.size
        clear hB1 hO1
        go_wp2_with (at_builtin; refine wpList_append_lies _ (by rfl) (.tmp 40) (.tmp 45) 25 (by rfl) w.heap.size 22 i22 (.slice none 0 0) 1 24 Try.underlying25 hi22 hz220 hz221 hz222 rfl (by decide) e outl.length es (by rfl) (OW.out.alloc _) ⟨w1.heap.size, 0, none⟩ 1 1 [.slice a2 n2 c2] (by rfl) (by rfl) (World.news_of_block (cs := #[.slice a2 n2 c2]) (t := 22) (fr := (0, 0)) (heap_alloc_new w1 _)) (by simp [Value.oneCell']) (by omega) (by unfold maxLen; omega) (by omega) (by simp; omega) (w1.heap.size + 1) (by simp) ?_; intro gg cp w2 hown2 hgrow hat hlt1)
        have hI := Items.snoc HI1.out HI2.out HB1.out HO1.out ((Below.refl _ w1).alloc (Nat.le_refl _) _) hown2 hgrow
        have hB2 : Below w.heap.size w w2 := ((HB.out.trans (HB1.out.mono hs0)).alloc (by omega) _).grown hgrow (by simp; omega) (fun b hb => ownsRow_lo HI1.out hb)
        go_ret
        refine ⟨_, rfl, hB2, ?_⟩
        rw [← HP2.out]
        exact hI

set_option maxHeartbeats 1600000 in
set_option maxRecDepth 100000 in
theorem parity_none (a : Option Addr) (cap0 : Nat) (w : World) :
    Calls Try.prog 10 #[.slice a 0 cap0] w fun e w' => ∃ v, e = .returned v ∧ Below w.heap.size w w' ∧ Items w' w.heap.size v (Pl.par [] 0 [] []) := by
  obtain ⟨i22, hi22, hz220, hz221, hz222⟩ := info_parts Try.info22
  go_enter Try.func10, Try.ntmps10
  go_wp2
  refine wp_loop_rounds 1 ?_
  rw [rounds_succ]
  go_wp2_with fail
  refine (unesc_any _ _ _ [] _ rfl rfl (.inl rfl)).mono ?_
  rintro e1 w1 ⟨e2, rfl, hB1, hO1⟩
  obtain ⟨a2, n2, c2, rfl⟩ := hO1.slice
  have HB1 := hide hB1
  have HO1 := hide hO1
  have hs1 := hB1.size
  clear hB1 hO1
  go_wp2_with (at_builtin; refine wpList_append_lies _ (by rfl) (.tmp 40) (.tmp 45) 25 (by rfl) w.heap.size 22 i22 (.slice none 0 0) 1 24 Try.underlying25 hi22 hz220 hz221 hz222 rfl (by decide) (.slice none 0 0) 0 [] (by rfl) (World.ownsRow_nil _ _ _ _) ⟨w1.heap.size, 0, none⟩ 1 1 [.slice a2 n2 c2] (by rfl) (by rfl) (World.news_of_block (cs := #[.slice a2 n2 c2]) (t := 22) (fr := (0, 0)) (heap_alloc_new w1 _)) (by simp [Value.oneCell']) (by omega) (by unfold maxLen; omega) (by omega) (by simp; omega) (w1.heap.size + 1) (by simp) ?_; intro gg cp w2 hown2 hgrow hat hlt1)
  have hI := Items.snoc (outl := []) (World.ownsRow_nil w w.heap.size 22 1) (Done.nil _ _) HB1.out HO1.out ((Below.refl _ w1).alloc (Nat.le_refl _) _) hown2 hgrow
  have hB2 : Below w.heap.size w w2 := (HB1.out.alloc (by omega) _).grown hgrow (by simp; omega) (fun b hb => by cases hb)
  go_ret
  exact ⟨_, rfl, hB2, hI⟩

theorem parity_any (a : Option Addr) (cap0 : Nat) (t : List Int) (w : World) (hl : t.length / 1048577 = 0) (hcap : t.length ≤ cap0) (h : Txt w a t) :
    Calls Try.prog 10 #[.slice a t.length cap0] w fun e w' => ∃ v, e = .returned v ∧ Below w.heap.size w w' ∧ Items w' w.heap.size v (Pl.par t 0 [] []) := by
  rcases h with rfl | ⟨b, o, rfl, hb, hc⟩
  · exact parity_none a cap0 w
  · exact parity_some b o cap0 t w hl hcap hb hc

end Go.Proofs.Qxb6603816a
