/-
  appendSortKey (27): the key, appended to a slice of the caller's own.
-/
import Derived.Test.Qxb6603816aStarts
import Derived.Deep.RegionWith
import Derived.Laws.IdiomStrings
namespace Go.Proofs.Qxb6603816a
open Go.RowKit

/-- A string's bytes. -/
def bs (x : ByteArray) : List Int := (List.range x.size).map fun i => (byt x i : Int)
theorem bs_len (x : ByteArray) : (bs x).length = x.size := by simp [bs]
theorem bs_take {x : ByteArray} {i : Nat} (h : i < x.size) : (bs x).take (i + 1) = (bs x).take i ++ [(byt x i : Int)] := by
  rw [List.take_succ_eq_append_getElem (by rw [bs_len]; exact h)]
  simp [bs]
/-- A byte of a label in the key. -/
def enc1 (c : Int) : List Int := if c = 0 then [0, 1] else [low c]
def encL : List Int → List Int
  | [] => []
  | c :: t => enc1 c ++ encL t
theorem encL_snoc (x : List Int) (c : Int) : encL (x ++ [c]) = encL x ++ enc1 c := by
  induction x with
  | nil => simp [encL]
  | cons d x ih => simp [encL, ih]
/-- The key of the last n labels. -/
def Kr (s : ByteArray) (m : Nat) : Nat → List Int
  | 0 => []
  | n + 1 => Kr s m n ++ encL (bs (lab s (m - 1 - n))) ++ [0, 0]

def z46 : Array Value := Array.replicate 127 (.int .u8 0)
theorem zero46 : (Try.prog.info? 46).map (fun i => i.zero) = some (some (.agg z46)) := by kernel_rfl
theorem run_zero46 (w : World) : (zeroValue 46).run Try.prog w = .ok (.agg z46) w := by
  obtain ⟨i, hi, hz⟩ := Option.map_eq_some_iff.1 zero46
  simp [zeroValue, typeInfo, hi, hz]

/-- What lies in memory in the middle of the making of the key. -/
structure KS (w wr : World) (s : ByteArray) (m B0 : Nat) (row : Option Nat) (e : Value) (tx : List Int) : Prop where
  gb : w.grownBy wr row
  box : wr.heap[w.heap.size]? = some (.cells #[.string s] 35 (0, 0))
  st : ∃ cur, wr.heap[w.heap.size + 1]? = some (.cells cur 46 (0, 0)) ∧ ∀ j, j < m → cur[j]? = some (.int .u8 (P s j))
  own : wr.ownsRow B0 5 1 e tx.length (tx.map (Value.int .u8))
  at_ : ∀ b, e.ownBlock = some b → row = some b ∨ w.heap.size ≤ b

section
variable {w wr wA w1 : World} {s : ByteArray} {m B0 : Nat} {row : Option Nat} {e : Value} {tx : List Int}
theorem KS.start {cur : Array Value} {A : Obj} (ho : w.ownsRow B0 5 1 e tx.length (tx.map (Value.int .u8))) (hg : ((w.alloc (.cells #[.string s] 35)).alloc A).drew.grownBy w1 (some (w.heap.size + 1)))
    (hrow : w1.heap[w.heap.size + 1]? = some (.cells cur 46 (0, 0))) (hgot : ∀ j, j < m → cur[j]? = some (.int .u8 (P s j))) : KS w w1 s m B0 e.ownBlock e tx := by
  have hold : ∀ k, k < w.heap.size → w1.heap[k]? = w.heap[k]? := fun k hk => by
    rw [hg.block k (by show k < (w.alloc _ |>.alloc _).heap.size; simp; omega) (by simp; omega)]
    show ((w.alloc _).alloc _).heap[k]? = _
    rw [Below.heap_alloc _ _ _ (by simp; omega), Below.heap_alloc _ _ _ hk]
  refine ⟨⟨hg.os, hg.tape, hg.output, by have := hg.size; simp at this; omega, fun k hk _ => hold k hk⟩, ?_, ⟨cur, hrow, hgot⟩, ?_, fun b hb => .inl hb⟩
  · rw [hg.block w.heap.size (by show _ < ((w.alloc _).alloc _).heap.size; simp; omega) (by simp)]
    exact heap_alloc2_old w _ _
  · refine ⟨ho.1, ?_⟩
    rcases ho.2 with r | ⟨g, cap, cur, rfl, r2, r3, r4⟩
    · exact .inl r
    · exact .inr ⟨g, cap, cur, rfl, r2, (hold g (lt_of_block r3)).trans r3, r4⟩
theorem KS.quiet (h : KS w wr s m B0 row e tx) (hb : Below wr.heap.size wr wA) : KS w wA s m B0 row e tx := by
  obtain ⟨cur, c1, c2⟩ := h.st
  refine ⟨⟨hb.os.trans h.gb.os, hb.tape.trans h.gb.tape, hb.output.trans h.gb.output, Nat.le_trans h.gb.size hb.size, fun k hk hn => (hb.block k (Nat.lt_of_lt_of_le hk h.gb.size)).trans (h.gb.block k hk hn)⟩,
    (hb.block _ (lt_of_block h.box)).trans h.box, ⟨cur, (hb.block _ (lt_of_block c1)).trans c1, c2⟩, ?_, h.at_⟩
  refine ⟨h.own.1, ?_⟩
  rcases h.own.2 with r | ⟨g, cap, cur, rfl, r2, r3, r4⟩
  · exact .inl r
  · exact .inr ⟨g, cap, cur, rfl, r2, (hb.block g (lt_of_block r3)).trans r3, r4⟩
theorem KS.push (h : KS w wr s m B0 row e tx) {n gg cp H : Nat} {news : List Int} (hn : tx.length + news.length = n) (hown : w1.ownsRow B0 5 1 (.slice (some ⟨gg, 0, none⟩) n cp) n (tx.map (Value.int .u8) ++ news.map (Value.int .u8)))
    (hgrow : wr.grownBy w1 e.ownBlock) (hat : e.ownBlock = some gg ∨ gg = H) (hH : w.heap.size ≤ H) : KS w w1 s m B0 row (.slice (some ⟨gg, 0, none⟩) n cp) (tx ++ news) := by
  obtain ⟨cur, c1, c2⟩ := h.st
  have hne : ∀ (b t : Nat) (c : Array Value), t ≠ 5 → wr.heap[b]? = some (.cells c t (0, 0)) → w1.heap[b]? = wr.heap[b]? := fun b t c ht hc => by
    refine hgrow.block b (lt_of_block hc) (fun hh => ?_)
    rcases h.own.2 with ⟨rfl, _⟩ | ⟨g, cap, cu, rfl, _, r3, _⟩
    · cases hh
    · simp only [Value.ownBlock, Option.some.injEq] at hh
      subst hh
      rw [r3] at hc
      simp at hc
      exact ht hc.2.symm
  refine ⟨⟨hgrow.os.trans h.gb.os, hgrow.tape.trans h.gb.tape, hgrow.output.trans h.gb.output, Nat.le_trans h.gb.size hgrow.size, fun k hk hn' => ?_⟩, (hne _ 35 _ (by decide) h.box).trans h.box, ⟨cur, (hne _ 46 _ (by decide) c1).trans c1, c2⟩, ?_, fun b hb => ?_⟩
  · refine (hgrow.block k (Nat.lt_of_lt_of_le hk h.gb.size) (fun hh => ?_)).trans (h.gb.block k hk hn')
    rcases h.at_ k hh.symm with r | r
    · exact hn' r.symm
    · omega
  · rw [List.map_append, List.length_append, hn]
    exact hown
  · simp only [Value.ownBlock, Option.some.injEq] at hb
    subst hb
    rcases hat with r | r
    · exact h.at_ _ r
    · exact .inr (by omega)
/-- A row that is marked is not the row that is appended to. -/
theorem KS.far (h : KS w wr s m B0 row e tx) {b t : Nat} {c : Array Value} {fr : Nat × Nat} (hf : fr ≠ (0, 0)) (hc : wr.heap[b]? = some (.cells c t fr)) : some b ≠ e.ownBlock := fun hh => by
  rcases h.own.2 with ⟨rfl, _⟩ | ⟨g, cap, cu, rfl, _, r3, _⟩
  · cases hh
  · simp only [Value.ownBlock, Option.some.injEq] at hh
    subst hh
    rw [r3] at hc
    simp at hc
    exact hf hc.2.2.symm
end

theorem below_of_drew {B : Nat} {w w1 : World} (h : Below B w.drew w1) : Below B w w1 := ⟨h.os, h.tape, h.output, h.size, h.block⟩
theorem row_kept {w wA w1 : World} {s : ByteArray} {m B0 : Nat} {row : Option Nat} {e : Value} {tx : List Int} (h : KS w wA s m B0 row e tx) (hg : wA.grownBy w1 e.ownBlock) {b t : Nat} {c : Array Value} {fr : Nat × Nat} (hf : fr ≠ (0, 0)) (hc : wA.heap[b]? = some (.cells c t fr)) : w1.heap[b]? = some (.cells c t fr) :=
  (hg.block b (lt_of_block hc) (h.far hf hc)).trans hc
theorem KS.append {w wr w1 : World} {s : ByteArray} {m B0 : Nat} {row : Option Nat} {e : Value} {tx : List Int} {X : Obj} (h : KS w wr s m B0 row e tx) {n gg cp : Nat} {news : List Int} (hn : tx.length + news.length = n) (hown : w1.ownsRow B0 5 1 (.slice (some ⟨gg, 0, none⟩) n cp) n (tx.map (Value.int .u8) ++ news.map (Value.int .u8)))
    (hgrow : (wr.alloc X).grownBy w1 e.ownBlock) (hat : e.ownBlock = some gg ∨ gg = wr.heap.size + 1) : KS w w1 s m B0 row (.slice (some ⟨gg, 0, none⟩) n cp) (tx ++ news) :=
  (h.quiet ((Below.refl _ wr).alloc (Nat.le_refl _) X)).push hn hown hgrow hat (by have := h.gb.size; omega)
theorem row_kept2 {w wr w1 : World} {s : ByteArray} {m B0 : Nat} {row : Option Nat} {e : Value} {tx : List Int} {X : Obj} (h : KS w wr s m B0 row e tx) (hg : (wr.alloc X).grownBy w1 e.ownBlock) {b t : Nat} {c : Array Value} {fr : Nat × Nat} (hf : fr ≠ (0, 0)) (hc : wr.heap[b]? = some (.cells c t fr)) : w1.heap[b]? = some (.cells c t fr) :=
  row_kept (h.quiet ((Below.refl _ wr).alloc (Nat.le_refl _) X)) hg hf ((Below.heap_alloc _ _ _ (lt_of_block hc)).trans hc)
theorem bytes_at {x : ByteArray} (C : Nat) {i : Nat} (h : i < x.size) : (bytesRow x C)[i]? = some (.int .u8 (byt x i : Int)) := by
  unfold bytesRow
  rw [Array.getElem?_append_left (by simpa using h), Array.getElem?_map, Array.getElem?_eq_getElem (by simpa using h), ← byt_get h]
  rfl
theorem label_x (s : ByteArray) (k c : Nat) (x : ByteArray) (w : World) (hs : s.size / 256 = 0) (hk : k + 1 + c < s.size) (hc : c = byt s k) (hx : x = s.extract (k + 1) (k + 1 + c)) :
    Calls Try.prog 30 #[.agg #[.string s], .int .u8 (k : Int)] w fun e w' => e = .returned (.string x) ∧ Below w.heap.size w w' := by
  subst hx
  exact label_any s k c w hs hk hc

set_option maxRecDepth 100000 in
set_option maxHeartbeats 1600000 in
theorem key_any (s : ByteArray) (m B0 : Nat) (v : Value) (txt : List Int) (w : World) (hW : Wire s m) (hO : w.ownsRow B0 5 1 v txt.length (txt.map (Value.int .u8))) (hB0 : B0 ≤ w.heap.size) (htl : txt.length / 1048577 = 0) :
    Calls Try.prog 27 #[.agg #[.string s], v] w fun e w' => ∃ v', e = .returned v' ∧ w.grownBy w' v.ownBlock ∧ w'.ownsRow B0 5 1 v' (txt ++ Kr s m m).length ((txt ++ Kr s m m).map (Value.int .u8)) := by
  obtain ⟨i5, hi5, hz50, hz51, hz52⟩ := info_parts Try.info5
  have hs : s.size / 256 = 0 := by have := hW.size; omega
  have hm : m ≤ 127 := by have := hW.m_le; omega
  have hz46 := run_zero46
  have HW := hide hW
  have HO := hide hO
  clear hW hO
  go_enter Try.func27, Try.ntmps27
  go_wp2_with fail
  go_region_with (go_at_call 29; refine (starts_any s m (w.heap.size + 1) z46 _ HW.out (by exact heap_alloc2_new w _ _) (by simp [z46])).mono ?_; rintro e w1 ⟨rfl, hgb, cur, hrow, hgot⟩; have K0 := hide (KS.start HO.out hgb hrow hgot); clear hgb hrow hgot)
  have hconv : ∀ (w : World) (x : ByteArray), (convert 9 22 (.string x)).run Try.prog w = .ok (.slice (some ⟨w.heap.size, 0, none⟩) x.size (grownCap w x.size 0 5)) (w.drew.alloc (.cells (bytesRow x (grownCap w x.size 0 5)) 5 ((bytesRow x (grownCap w x.size 0 5)).size, (bytesRow x (grownCap w x.size 0 5)).size + 1))) :=
    fun w x => run_bytes_of_string w 9 22 5 x Try.underlying9 Try.underlying22 Try.underlying5
  go_wp2
  go_loopw [1, 7] (fun b i wr => ∃ (n : Nat) (e : Value) (tx : List Int), n ≤ m ∧ i = .int .i64 ((m : Int) - 1 - n) ∧ e = b ∧ KS w wr s m B0 v.ownBlock e tx ∧ tx.length ≤ txt.length + 600 * n ∧ Hid (tx = txt ++ Kr s m n)) (fun _ i _ => (intOf i + 1).toNat)
  case atStart => exact ⟨0, v, txt, Nat.zero_le _, by go_num, rfl, K0.out, by omega, (by simp [Kr] : txt = txt ++ Kr s m 0)⟩
  case round =>
    obtain ⟨n, e, tx, hn, rfl, rfl, hK, htx, HX⟩ := hrel
    have HK := hide hK
    clear K0
    by_cases hnm : n < m
    · obtain ⟨j, hj⟩ : ∃ j, j = m - 1 - n := ⟨_, rfl⟩
      have hjm : j < m := by omega
      have hjn1 : j + n + 1 ≤ m := by omega
      have hjn2 : m ≤ j + n + 1 := by omega
      obtain ⟨k, hk⟩ : ∃ k, k = P s j := ⟨_, rfl⟩
      obtain ⟨c, hc⟩ : ∃ c, c = byt s k := ⟨_, rfl⟩
      obtain ⟨y1, y2⟩ := HW.out.lab j hjm
      rw [← hk, ← hc] at y1 y2
      obtain ⟨cur, c1, c2⟩ := hK.st
      have g1 : wr.cell? ⟨w.heap.size + 1, j, none⟩ = some (.int .u8 (k : Int)) := by
        rw [cell_of_row _ _ j cur 46 (0, 0) c1, hk]; exact c2 j hjm
      have g2 : wr.cell? ⟨w.heap.size, 0, none⟩ = some (.string s) := by
        rw [cell_of_row _ _ 0 _ 35 (0, 0) hK.box]; rfl
      have hi1 : ((m : Int) - 1 - (n : Int)) = (j : Int) := by omega
      have q0 : (0 : Int) ≤ (j : Int) := by omega
      have q1 : (j : Int) < (m : Int) := by omega
      have HC := hide hc
      have HKK := hide hk
      have HJ := hide hj
      rw [hi1]
      clear hk hc hj hK c1 c2 hi1
      obtain ⟨x, hx⟩ : ∃ x, x = s.extract (k + 1) (k + 1 + c) := ⟨_, rfl⟩
      have hxs : x.size = c := by rw [hx, ByteArray.size_extract]; omega
      have HXX : Hid (lab s (m - 1 - n) = x) := by
        show _ = _
        rw [hx, ← HJ.out, lab, ← HKK.out, ← HC.out]
      have hxc : x.size ≤ 255 := by omega
      have HXE := hide hx
      clear hx hxs
      go_wp2_with fail
      go_region_with (go_at_call 30; refine (label_x s k c x _ hs y2 HC.out HXE.out).mono ?_; rintro e1 w1 ⟨rfl, hB1⟩; have HB1 := hide hB1; clear hB1)
      all_goals
        go_simp
        have hs1 : wr.heap.size ≤ w1.heap.size := HB1.out.size
        have K1 := hide (HK.out.quiet ((below_of_drew HB1.out).alloc hs1 (.cells (bytesRow x (grownCap w1 x.size 0 5)) 5 ((bytesRow x (grownCap w1 x.size 0 5)).size, (bytesRow x (grownCap w1 x.size 0 5)).size + 1))).drew)
        have R1 := hide (heap_alloc_new w1 (.cells (bytesRow x (grownCap w1 x.size 0 5)) 5 ((bytesRow x (grownCap w1 x.size 0 5)).size, (bytesRow x (grownCap w1 x.size 0 5)).size + 1)))
        generalize grownCap w1 x.size 0 5 = C at K1 R1 ⊢
        go_wp2
        go_loopw [1, 28] (fun b i w2 => ∃ (q : Nat) (e2 : Value) (t2 : List Int), q ≤ x.size ∧ i = .int .i64 q ∧ e2 = b ∧ KS w w2 s m B0 v.ownBlock e2 t2 ∧ w2.heap[w1.heap.size]? = some (.cells (bytesRow x C) 5 ((bytesRow x C).size, (bytesRow x C).size + 1)) ∧ t2.length ≤ tx.length + 2 * q ∧ Hid (t2 = tx ++ encL ((bs x).take q))) (fun _ i _ => x.size - (intOf i).toNat)
        case atStart => exact ⟨0, e, tx, Nat.zero_le _, rfl, rfl, K1.out, R1.out, by omega, (by simp [encL] : tx = tx ++ encL [])⟩
        case round =>
          obtain ⟨q, e2, t2, hq, rfl, rfl, hK2, hR2, ht2, HX2⟩ := hrel
          have HK2 := hide hK2
          have HR2 := hide hR2
          by_cases hqx : q < x.size
          · obtain ⟨d, hd⟩ : ∃ d, d = byt x q := ⟨_, rfl⟩
            have g3 : wr.cell? ⟨w1.heap.size, q, none⟩ = some (.int .u8 (d : Int)) := by rw [cell_of_row _ _ q _ 5 _ hR2, hd]; exact bytes_at C hqx
            have hd2 : d < 256 := by rw [hd]; exact byt_lt _ _
            have HE : Hid (t2 ++ enc1 (d : Int) = tx ++ encL ((bs x).take (q + 1))) := by
              show _ = _
              rw [HX2.out, bs_take hqx, encL_snoc, ← hd, List.append_assoc]
            clear hd hK2 hR2
            by_cases hd0 : d = 0
            · have b1 : ((d : Int) == 0) = true := beq_iff_eq.2 (by omega)
              have HE1 : Hid (t2 ++ [0, 1] = tx ++ encL ((bs x).take (q + 1))) := by
                show _ = _
                rw [← HE.out, enc1, if_pos (by omega)]
              clear hd0
              go_wp2_with (at_builtin; refine wpList_append_lies _ (by rfl) (.tmp 34) (.tmp 35) 22 (by rfl) B0 5 i5 (.int .u8 0) 1 1 Try.underlying22 hi5 hz50 hz51 hz52 rfl (by decide) e2 t2.length (t2.map (Value.int .u8)) (by rfl) (HK2.out.own.alloc _) ⟨wr.heap.size, 0, none⟩ 2 2 [.int .u8 0, .int .u8 1] (by rfl) (by rfl) (World.news_of_block (cs := #[.int .u8 0, .int .u8 1]) (t := 5) (fr := (0, 0)) (heap_alloc_new wr _)) (by simp [Value.oneCell']) (by omega) (by unfold maxLen; omega) (by omega) (by have := HK2.out.gb.size; simp; omega) (wr.heap.size + 1) (by simp) ?_; intro gg cp w3 hown hgrow hat hlt1)
              have hP := HK2.out.append (news := [0, 1]) rfl hown hgrow hat
              have hR := row_kept2 HK2.out hgrow (by simp) HR2.out
              go_roundw
              case rel => exact ⟨q + 1, _, _, by omega, by go_num, rfl, hP, hR, by simp; omega, HE1⟩
              case measure => simp [intOf]; omega
            · have b1 : ((d : Int) == 0) = false := beq_eq_false_iff_ne.2 (by omega)
              have HE1 : Hid (t2 ++ [low (d : Int)] = tx ++ encL ((bs x).take (q + 1))) := by
                show _ = _
                rw [← HE.out, enc1, if_neg (by omega)]
              clear hd0
              go_wp2_with (first | (go_at_call 31; refine (lower_any (d : Int) _ (by omega) (by omega)).mono ?_; rintro e3 w3 ⟨rfl, rfl⟩) | (at_builtin; refine wpList_append_lies _ (by rfl) (.tmp 37) (.tmp 40) 22 (by rfl) B0 5 i5 (.int .u8 0) 1 1 Try.underlying22 hi5 hz50 hz51 hz52 rfl (by decide) e2 t2.length (t2.map (Value.int .u8)) (by rfl) (HK2.out.own.alloc _) ⟨w3.heap.size, 0, none⟩ 1 1 [.int .u8 (low (d : Int))] (by rfl) (by rfl) (World.news_of_block (cs := #[.int .u8 (low (d : Int))]) (t := 5) (fr := (0, 0)) (heap_alloc_new w3 _)) (by simp [Value.oneCell']) (by omega) (by unfold maxLen; omega) (by omega) (by have := HK2.out.gb.size; simp; omega) (w3.heap.size + 1) (by simp) ?_; intro gg cp w4 hown hgrow hat hlt1))
              have hP := HK2.out.append (news := [low (d : Int)]) rfl hown hgrow hat
              have hR := row_kept2 HK2.out hgrow (by simp) HR2.out
              go_roundw
              case rel => exact ⟨q + 1, _, _, by omega, by go_num, rfl, hP, hR, by simp; omega, HE1⟩
              case measure => simp [intOf]; omega
          · have hqe : q = x.size := by omega
            have HE1 : Hid (t2 ++ [0, 0] = txt ++ Kr s m (n + 1)) := by
              show _ = _
              rw [HX2.out, hqe, List.take_of_length_le (by rw [bs_len]; exact Nat.le_refl _), HX.out, Kr, HXX.out, List.append_assoc, List.append_assoc, List.append_assoc]
            clear hqe hK2 hR2
            go_wp2_with (at_builtin; refine wpList_append_lies _ (by rfl) (.tmp 43) (.tmp 44) 22 (by rfl) B0 5 i5 (.int .u8 0) 1 1 Try.underlying22 hi5 hz50 hz51 hz52 rfl (by decide) e2 t2.length (t2.map (Value.int .u8)) (by rfl) (HK2.out.own.alloc _) ⟨wr.heap.size, 0, none⟩ 2 2 [.int .u8 0, .int .u8 0] (by rfl) (by rfl) (World.news_of_block (cs := #[.int .u8 0, .int .u8 0]) (t := 5) (fr := (0, 0)) (heap_alloc_new wr _)) (by simp [Value.oneCell']) (by omega) (by unfold maxLen; omega) (by omega) (by have := HK2.out.gb.size; simp; omega) (wr.heap.size + 1) (by simp) ?_; intro gg cp w3 hown hgrow hat hlt1)
            have hP := HK2.out.append (news := [0, 0]) rfl hown hgrow hat
            go_roundw
            case rel => exact ⟨n + 1, _, _, by omega, by go_num, rfl, hP, by simp; omega, HE1⟩
            case measure => simp [intOf] <;> omega
    · have hnn : n = m := by omega
      have HX3 : Hid (tx = txt ++ Kr s m m) := by
        show _ = _
        rw [HX.out, hnn]
      have hneg : ((m : Int) - 1 - (n : Int)) < 0 := by omega
      clear hnn hK
      go_wp2
      go_ret
      refine ⟨_, rfl, HK.out.gb, ?_⟩
      rw [← HX3.out]
      exact HK.out.own

end Go.Proofs.Qxb6603816a
