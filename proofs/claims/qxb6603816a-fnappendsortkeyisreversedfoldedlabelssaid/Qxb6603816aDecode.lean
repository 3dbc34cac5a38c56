/-
  zzb1DecodeKey (20), under the decoder's own success; ZZAppendSortKey (17), ZZNameFromWire (18); and the plain law: the key decodes to the labels, folded, from the last.
-/
import Derived.Test.Qxb6603816aKey
import Derived.Test.Qxb6603816aUnesc
import Derived.Test.Qxb6603816aBytes
namespace Go.Proofs.Qxb6603816a
open Go.RowKit

/-- The decoder. -/
def dec : List Int → List (List Int) → List Int → Option (List (List Int))
  | [], out, cur => if cur = [] then some out else none
  | [c], out, cur => if c = 0 then none else (if cur ++ [c] = [] then some out else none)
  | c :: d :: t, out, cur => if c = 0 then (if d = 1 then dec t out (cur ++ [0]) else if d = 0 then dec t (out ++ [cur]) [] else none) else dec (d :: t) out (cur ++ [c])
theorem dec_nil (out : List (List Int)) (cur : List Int) : dec [] out cur = if cur = [] then some out else none := rfl
theorem dec_plain (c : Int) (t : List Int) (h : c ≠ 0) (out : List (List Int)) (cur : List Int) : dec (c :: t) out cur = dec t out (cur ++ [c]) := by
  cases t with
  | nil => simp only [dec, if_neg h]
  | cons d t => rw [dec, if_neg h]
theorem dec_one (c d : Int) (t : List Int) (h : c = 0) (hd : d = 1) (out : List (List Int)) (cur : List Int) : dec (c :: d :: t) out cur = dec t out (cur ++ [0]) := by rw [dec, if_pos h, if_pos hd]
theorem dec_end (c d : Int) (t : List Int) (h : c = 0) (hd : d = 0) (out : List (List Int)) (cur : List Int) : dec (c :: d :: t) out cur = dec t (out ++ [cur]) [] := by rw [dec, if_pos h, if_neg (by omega), if_pos hd]
theorem dec_bad (c d : Int) (t : List Int) (h : c = 0) (h1 : d ≠ 1) (h0 : d ≠ 0) (out : List (List Int)) (cur : List Int) : dec (c :: d :: t) out cur = none := by rw [dec, if_pos h, if_neg h1, if_neg h0]
theorem dec_cut (c : Int) (h : c = 0) (out : List (List Int)) (cur : List Int) : dec [c] out cur = none := by rw [dec, if_pos h]

/-- A label, folded. -/
def fold (l : List Int) : List Int := l.map low
theorem low_ne {c : Int} (h : c ≠ 0) : low c ≠ 0 := by unfold low; split <;> omega
theorem low_zero : low 0 = 0 := rfl
theorem dec_label (l : List Int) : ∀ (t : List Int) (out : List (List Int)) (cur : List Int), dec (encL l ++ ([0, 0] ++ t)) out cur = dec t (out ++ [cur ++ fold l]) [] := by
  induction l with
  | nil => intro t out cur; simp only [encL, List.nil_append, List.cons_append, fold, List.map_nil, List.append_nil]; rw [dec_end 0 0 t rfl rfl]
  | cons c l ih =>
    intro t out cur
    by_cases h : c = 0
    · subst h
      simp only [encL, enc1, if_pos, List.cons_append, List.nil_append]
      rw [dec_one 0 1 _ rfl rfl]
      have := ih t out (cur ++ [0])
      simp only [List.cons_append, List.nil_append] at this
      rw [this]
      simp [fold, low_zero]
    · simp only [encL, enc1, if_neg h, List.cons_append, List.nil_append]
      rw [dec_plain _ _ (low_ne h)]
      have := ih t out (cur ++ [low c])
      simp only [List.cons_append, List.nil_append] at this
      rw [this]
      simp [fold]
/-- The last n labels, folded, from the last. -/
def Rv (s : ByteArray) (m : Nat) : Nat → List (List Int)
  | 0 => []
  | n + 1 => Rv s m n ++ [fold (bs (lab s (m - 1 - n)))]
theorem Rv_len (s : ByteArray) (m n : Nat) : (Rv s m n).length = n := by
  induction n with
  | zero => rfl
  | succ n ih => simp [Rv, ih]
theorem Rv_at (s : ByteArray) (m : Nat) : ∀ n j, j < n → (Rv s m n).getD j [] = fold (bs (lab s (m - 1 - j))) := by
  intro n
  induction n with
  | zero => intro j hj; omega
  | succ n ih =>
    intro j hj
    simp only [Rv, List.getD_eq_getElem?_getD]
    by_cases h : j < n
    · rw [List.getElem?_append_left (by rw [Rv_len]; exact h), ← List.getD_eq_getElem?_getD]
      exact ih j h
    · have : j = n := by omega
      subst this
      rw [List.getElem?_append_right (by rw [Rv_len]; exact Nat.le_refl _), Rv_len, Nat.sub_self]
      rfl
theorem dec_keys (s : ByteArray) (m : Nat) : ∀ n t, dec (Kr s m n ++ t) [] [] = dec t (Rv s m n) [] := by
  intro n
  induction n with
  | zero => intro t; rfl
  | succ n ih =>
    intro t
    rw [Kr, List.append_assoc, List.append_assoc, ih, dec_label]
    simp [Rv]
/-- THE THIRD LAW. -/
theorem law3 (s : ByteArray) (m : Nat) : dec (Kr s m m) [] [] = some (Rv s m m) := by
  have := dec_keys s m m []
  rw [List.append_nil] at this
  rw [this, dec_nil, if_pos rfl]

/-! ### The walk of the decoder -/
structure DS (w wr : World) (ov : Value) (es : List Value) (out : List (List Int)) (H : Nat) (cv : Value) (cur : List Int) : Prop where
  bel : Below w.heap.size w wr
  row : wr.ownsRow w.heap.size 22 1 ov out.length es
  done : Done wr H es out
  own : Own wr H cv cur
  lo : w.heap.size ≤ H
  hi : H ≤ wr.heap.size

theorem DS.start (w : World) : DS w w (.slice none 0 0) [] [] w.heap.size (.slice none 0 0) [] :=
  ⟨Below.refl _ _, World.ownsRow_nil _ _ _ _, Done.nil _ _, Own.nil _ _, Nat.le_refl _, Nat.le_refl _⟩
section
variable {w wr w1 : World} {ov cv : Value} {es : List Value} {out : List (List Int)} {H : Nat} {cur : List Int} {X : Obj}
theorem DS.row22 (h : DS w wr ov es out H cv cur) {b : Nat} (hb : ov.ownBlock = some b) : w.heap.size ≤ b ∧ b < wr.heap.size ∧ ∃ c, wr.heap[b]? = some (.cells c 22 (0, 0)) := by
  rcases h.row.2 with ⟨rfl, _⟩ | ⟨g, cap, cu, rfl, r2, r3, _⟩
  · cases hb
  · simp only [Value.ownBlock, Option.some.injEq] at hb
    subst hb
    exact ⟨r2, lt_of_block r3, cu, r3⟩
theorem DS.push (h : DS w wr ov es out H cv cur) {gg cp : Nat} {c : Int} (hown : w1.ownsRow H 5 1 (.slice (some ⟨gg, 0, none⟩) (cur.length + 1) cp) (cur.length + 1) (cur.map (Value.int .u8) ++ [.int .u8 c]))
    (hgrow : (wr.alloc X).grownBy w1 cv.ownBlock) : DS w w1 ov es out H (.slice (some ⟨gg, 0, none⟩) (cur.length + 1) cp) (cur ++ [c]) := by
  have s0 := h.bel.size
  have s1 := hgrow.size
  simp at s1
  have hi := h.hi
  have hsame : ∀ b, b < wr.heap.size → some b ≠ cv.ownBlock → w1.heap[b]? = wr.heap[b]? := fun b hb hn => by
    rw [hgrow.block b (by simp; omega) hn, Below.heap_alloc _ _ _ hb]
  refine ⟨(h.bel.alloc s0 X).grown hgrow (by simp; omega) (fun k hk => by have := (h.own.block hk).1; have := h.lo; omega), ?_, ?_, Own.snoc hown, h.lo, by omega⟩
  · refine ⟨h.row.1, ?_⟩
    rcases h.row.2 with r | ⟨g, cap, cu, rfl, r2, r3, r4⟩
    · exact .inl r
    · exact .inr ⟨g, cap, cu, rfl, r2, (hsame g (lt_of_block r3) (fun hh => by
        obtain ⟨_, _, c2, hc2⟩ := h.own.block hh.symm
        exact rows_apart r3 hc2 rfl)).trans r3, r4⟩
  · exact h.done.kept (fun b c' hb hc => hsame b (lt_of_block hc) (fun hh => by have := (h.own.block hh.symm).1; omega))
theorem DS.close (h : DS w wr ov es out H cv cur) {gg cp : Nat} (hown : w1.ownsRow w.heap.size 22 1 (.slice (some ⟨gg, 0, none⟩) (out.length + 1) cp) (out.length + 1) (es ++ [cv]))
    (hgrow : (wr.alloc X).grownBy w1 ov.ownBlock) : DS w w1 (.slice (some ⟨gg, 0, none⟩) (out.length + 1) cp) (es ++ [cv]) (out ++ [cur]) w1.heap.size (.slice none 0 0) [] := by
  have s0 := h.bel.size
  have s1 := hgrow.size
  simp at s1
  have hi := h.hi
  have hsame : ∀ (b : Nat) (c : Array Value), wr.heap[b]? = some (.cells c 5 (0, 0)) → w1.heap[b]? = wr.heap[b]? := fun b c hc => by
    have hb := lt_of_block hc
    rw [hgrow.block b (by simp; omega) (fun hh => by
      obtain ⟨_, _, c2, hc2⟩ := h.row22 hh.symm
      exact rows_apart hc2 hc rfl), Below.heap_alloc _ _ _ hb]
  have e1 : (out ++ [cur]).length = out.length + 1 := by simp
  refine ⟨(h.bel.alloc s0 X).grown hgrow (by simp; omega) (fun k hk => (h.row22 hk).1), by rw [e1]; exact hown, ?_, Own.nil _ _, by omega, Nat.le_refl _⟩
  have d1 : Done w1 w1.heap.size es out := (h.done.kept (fun b c _ hc => hsame b c hc)).mono (by omega)
  refine d1.snoc ((h.own.kept (fun b c _ hc => hsame b c hc)).mono (Nat.zero_le _)) (fun b hb => ?_)
  have := (h.own.block hb).2.1
  omega
theorem DS.slices (h : DS w wr ov es out H cv cur) : ∃ a n c, cv = .slice a n c := by
  rcases h.own.1.2 with ⟨rfl, _⟩ | ⟨g, cap, cu, rfl, _⟩
  · exact ⟨_, _, _, rfl⟩
  · exact ⟨_, _, _, rfl⟩
end

set_option maxRecDepth 100000 in
set_option maxHeartbeats 1600000 in
theorem decode_some (b o cap0 : Nat) (key : List Int) (res : List (List Int)) (w : World) (hl : key.length / 4194305 = 0) (hb : b < w.heap.size) (hc : ∀ j, j < key.length → w.cell? ⟨b, o + j, none⟩ = some (.int .u8 (key.getD j 0))) (hdec : dec key [] [] = some res) :
    Calls Try.prog 20 #[.slice (some ⟨b, o, none⟩) key.length cap0] w fun e w' => ∃ v, e = .returned (.tuple #[v, .bool true]) ∧ Below w.heap.size w w' ∧ Items w' w.heap.size v res := by
  obtain ⟨i5, hi5, hz50, hz51, hz52⟩ := info_parts Try.info5
  obtain ⟨i22, hi22, hz220, hz221, hz222⟩ := info_parts Try.info22
  have HC := hide hc
  have HD := hide hdec
  clear hc hdec
  go_enter Try.func20, Try.ntmps20
  go_wp2
  go_loopw [4, 5, 6] (fun o c i wr => ∃ (k : Nat) (ov cv : Value) (es : List Value) (out : List (List Int)) (cur : List Int) (H : Nat), k ≤ key.length ∧ i = .int .i64 k ∧ ov = o ∧ cv = c ∧ DS w wr ov es out H cv cur ∧ out.length ≤ k ∧ cur.length ≤ k ∧ Hid (dec (key.drop k) out cur = some res)) (fun _ _ i _ => key.length - (intOf i).toNat)
  case atStart => exact ⟨0, _, _, [], [], [], w.heap.size, Nat.zero_le _, rfl, rfl, rfl, DS.start w, Nat.le_refl _, Nat.le_refl _, HD.out⟩
  case round =>
    obtain ⟨k, ov, cv, es, out, cur, H, hk, rfl, rfl, rfl, hS, ho1, hc1, HP⟩ := hrel
    have HS := hide hS
    by_cases hlt : k < key.length
    · obtain ⟨c, hcc⟩ : ∃ c, c = key.getD k 0 := ⟨_, rfl⟩
      have hct : wr.cell? ⟨b, o + k, none⟩ = some (.int .u8 c) := by rw [hcc, ← HC.out k hlt]; exact hS.bel.cell (p := ⟨b, o + k, none⟩) hb
      have hP := HP.out
      rw [drop_at hlt, ← hcc] at hP
      clear hcc
      by_cases h0 : c = 0
      · have d1 : (c != 0) = false := by rw [h0]; rfl
        by_cases hlt2 : k + 1 < key.length
        · obtain ⟨d, hdd⟩ : ∃ d, d = key.getD (k + 1) 0 := ⟨_, rfl⟩
          have hdt : wr.cell? ⟨b, o + (k + 1), none⟩ = some (.int .u8 d) := by rw [hdd, ← HC.out (k + 1) hlt2]; exact hS.bel.cell (p := ⟨b, o + (k + 1), none⟩) hb
          rw [drop_at hlt2, ← hdd] at hP
          have d2 : decide ((key.length : Int) ≤ (k : Int) + 1) = false := decide_eq_false (by omega)
          have q2 : (k : Int) + 1 < (key.length : Int) := by omega
          have q3 : (0 : Int) ≤ (k : Int) + 1 := by omega
          clear hdd
          by_cases hd1 : d = 1
          · rw [dec_one c d _ h0 hd1] at hP
            have HP1 : Hid (dec (key.drop (k + 2)) out (cur ++ [0]) = some res) := hP
            have d3 : (d == 1) = true := beq_iff_eq.2 hd1
            clear hP h0 hd1 hS
            go_wp2_with (at_builtin; refine wpList_append_lies _ (by rfl) (.tmp 35) (.tmp 36) 22 (by rfl) H 5 i5 (.int .u8 0) 1 1 Try.underlying22 hi5 hz50 hz51 hz52 rfl (by decide) cv cur.length (cur.map (Value.int .u8)) (by rfl) (HS.out.own.1.alloc _) ⟨wr.heap.size, 0, none⟩ 1 1 [.int .u8 0] (by rfl) (by rfl) (World.news_of_block (cs := #[.int .u8 0]) (t := 5) (fr := (0, 0)) (heap_alloc_new wr _)) (by simp [Value.oneCell']) (by omega) (by unfold maxLen; omega) (by omega) (by have := HS.out.hi; simp; omega) (wr.heap.size + 1) (by simp) ?_; intro gg cp w1 hown hgrow hat hlt1)
            have hS1 := HS.out.push hown hgrow
            go_roundw
            case rel => exact ⟨k + 2, _, _, _, _, _, H, by omega, by go_num, rfl, rfl, hS1, by omega, by simp; omega, HP1⟩
            case measure => simp [intOf]; omega
          · by_cases hd0 : d = 0
            · rw [dec_end c d _ h0 hd0] at hP
              have HP1 : Hid (dec (key.drop (k + 2)) (out ++ [cur]) [] = some res) := hP
              have d3 : (d == 1) = false := beq_eq_false_iff_ne.2 hd1
              have d4 : (d != 0) = false := by rw [hd0]; rfl
              obtain ⟨ca, cn, cc, rfl⟩ := hS.slices
              clear hP h0 hd1 hd0 hS
              go_wp2_with (at_builtin; refine wpList_append_lies _ (by rfl) (.tmp 46) (.tmp 48) 25 (by rfl) w.heap.size 22 i22 (.slice none 0 0) 1 24 Try.underlying25 hi22 hz220 hz221 hz222 rfl (by decide) ov out.length es (by rfl) (HS.out.row.alloc _) ⟨wr.heap.size, 0, none⟩ 1 1 [.slice ca cn cc] (by rfl) (by rfl) (World.news_of_block (cs := #[.slice ca cn cc]) (t := 22) (fr := (0, 0)) (heap_alloc_new wr _)) (by simp [Value.oneCell']) (by omega) (by unfold maxLen; omega) (by omega) (by have := HS.out.bel.size; simp; omega) (wr.heap.size + 1) (by simp) ?_; intro gg cp w1 hown hgrow hat hlt1)
              have hS1 := HS.out.close hown hgrow
              go_roundw
              case rel => exact ⟨k + 2, _, _, _, _, _, _, by omega, by go_num, rfl, rfl, hS1, by simp; omega, Nat.zero_le _, HP1⟩
              case measure => simp [intOf]; omega
            · rw [dec_bad c d _ h0 hd1 hd0] at hP
              cases hP
        · rw [List.drop_eq_nil_of_le (by omega), dec_cut c h0] at hP
          cases hP
      · rw [dec_plain c _ h0] at hP
        have HP1 : Hid (dec (key.drop (k + 1)) out (cur ++ [c]) = some res) := hP
        have d1 : (c != 0) = true := bne_iff_ne.2 h0
        clear hP h0 hS
        go_wp2_with (at_builtin; refine wpList_append_lies _ (by rfl) (.tmp 18) (.tmp 20) 22 (by rfl) H 5 i5 (.int .u8 0) 1 1 Try.underlying22 hi5 hz50 hz51 hz52 rfl (by decide) cv cur.length (cur.map (Value.int .u8)) (by rfl) (HS.out.own.1.alloc _) ⟨wr.heap.size, 0, none⟩ 1 1 [.int .u8 c] (by rfl) (by rfl) (World.news_of_block (cs := #[.int .u8 c]) (t := 5) (fr := (0, 0)) (heap_alloc_new wr _)) (by simp [Value.oneCell']) (by omega) (by unfold maxLen; omega) (by omega) (by have := HS.out.hi; simp; omega) (wr.heap.size + 1) (by simp) ?_; intro gg cp w1 hown hgrow hat hlt1)
        have hS1 := HS.out.push hown hgrow
        go_roundw
        case rel => exact ⟨k + 1, _, _, _, _, _, H, by omega, by go_num, rfl, rfl, hS1, by omega, by simp; omega, HP1⟩
        case measure => simp [intOf]; omega
    · have hP := HP.out
      rw [List.drop_eq_nil_of_le (by omega), dec_nil] at hP
      by_cases hcn : cur = []
      · rw [if_pos hcn] at hP
        have hor : out = res := Option.some.inj hP
        have hcv := hS.own.2 hcn
        subst hcv
        subst hor
        have HI := hide (show Items wr w.heap.size ov out from ⟨es, hS.row, hS.done.mono hS.hi⟩)
        have HB := hide hS.bel
        clear hP hS HS hcn HP HD
        go_wp2
        go_ret2
        exact ⟨_, rfl, HB.out, HI.out⟩
      · rw [if_neg hcn] at hP
        cases hP

theorem decode_none (a : Option Addr) (cap0 : Nat) (w : World) :
    Calls Try.prog 20 #[.slice a 0 cap0] w fun e w' => ∃ v, e = .returned (.tuple #[v, .bool true]) ∧ Below w.heap.size w w' ∧ Items w' w.heap.size v [] := by
  go_enter Try.func20, Try.ntmps20
  go_wp2
  refine wp_loop_rounds 1 ?_
  rw [rounds_succ]
  go_wp2
  go_ret2
  exact ⟨_, rfl, Below.refl _ _, [], World.ownsRow_nil _ _ _ _, Done.nil _ _⟩

/-- zzb1DecodeKey where the decoder succeeds. -/
theorem decode_any (a : Option Addr) (cap0 n : Nat) (key : List Int) (res : List (List Int)) (w : World) (hn : n = key.length) (hl : key.length / 4194305 = 0) (ht : Txt w a key) (hdec : dec key [] [] = some res) :
    Calls Try.prog 20 #[.slice a n cap0] w fun e w' => ∃ v, e = .returned (.tuple #[v, .bool true]) ∧ Below w.heap.size w w' ∧ Items w' w.heap.size v res := by
  subst hn
  rcases ht with rfl | ⟨b, o, rfl, hb, hc⟩
  · obtain rfl : [] = res := Option.some.inj hdec
    exact decode_none a cap0 w
  · exact decode_some b o cap0 key res w hl hb hc hdec

/-! ### The shims -/
theorem name_any (s : ByteArray) (w : World) : Calls Try.prog 18 #[.string s] w fun e w' => e = .returned (.agg #[.string s]) ∧ Below w.heap.size w w' := by
  go_enter Try.func18, Try.ntmps18
  go_wp2
  exact bodyPost_ret (v := .agg #[.string s]) (by simp [results, Try.results18, go_sem]) rfl ⟨rfl, (Below.refl _ w).alloc (Nat.le_refl _) _⟩

theorem zzKey_any (s : ByteArray) (m B0 : Nat) (v : Value) (txt : List Int) (w : World) (hW : Wire s m) (hO : w.ownsRow B0 5 1 v txt.length (txt.map (Value.int .u8))) (hB0 : B0 ≤ w.heap.size) (htl : txt.length / 1048577 = 0) :
    Calls Try.prog 17 #[.agg #[.string s], v] w fun e w' => ∃ v', e = .returned v' ∧ w.grownBy w' v.ownBlock ∧ w'.ownsRow B0 5 1 v' (txt ++ Kr s m m).length ((txt ++ Kr s m m).map (Value.int .u8)) := by
  have HW := hide hW
  have HO := hide hO
  clear hW hO
  go_enter Try.func17, Try.ntmps17
  go_wp2_with fail
  refine (key_any s m B0 v txt _ HW.out (HO.out.alloc _) (by simp; omega) htl).mono ?_
  rintro e w1 ⟨v', rfl, hg, ho⟩
  have HG := hide (grown_trans (World.grownBy_alloc w _ _) hg)
  have HO1 := hide ho
  clear hg ho
  go_wp2
  go_ret
  exact ⟨_, rfl, HG.out, HO1.out⟩

end Go.Proofs.Qxb6603816a
