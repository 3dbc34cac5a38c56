/-
  A slice of byte slices that is read: zzBytes (12); zzb1CloneItems (13).
-/
import Derived.Test.Qxb6603816aBytes
namespace Go.Proofs.Qxb6603816a
open Go.RowKit

/-- From cell o of block b on lie slices that read its, one for one. -/
def Tab (w : World) (b o : Nat) (its : List (List Int)) : Prop :=
  b < w.heap.size ∧ ∀ k, k < its.length → ∃ a c, w.cell? ⟨b, o + k, none⟩ = some (.slice a (its.getD k []).length c) ∧ Txt w a (its.getD k []) ∧ (a = none → its.getD k [] = [] ∧ c = 0)
theorem Tab.kept {w w' : World} {b o : Nat} {its : List (List Int)} (h : Tab w b o its) (hb : Below w.heap.size w w') : Tab w' b o its := by
  refine ⟨by have := hb.size; have := h.1; omega, fun k hk => ?_⟩
  obtain ⟨a, c, h1, h2, h3⟩ := h.2 k hk
  exact ⟨a, c, (hb.cell (p := ⟨b, o + k, none⟩) h.1).trans h1, h2.kept hb, h3⟩

/-- How many bytes in all. -/
def sumL : List (List Int) → Nat
  | [] => 0
  | x :: r => x.length + sumL r
theorem sumL_snoc (l : List (List Int)) (x : List Int) : sumL (l ++ [x]) = sumL l + x.length := by
  induction l with
  | nil => simp [sumL]
  | cons y l ih => simp [sumL, ih]; omega
theorem take_snoc {its : List (List Int)} {k : Nat} (h : k < its.length) : its.take (k + 1) = its.take k ++ [its.getD k []] := by
  rw [List.take_succ_eq_append_getElem h]
  simp [List.getD, h]
theorem sumL_take {its : List (List Int)} {k : Nat} (h : k < its.length) : sumL (its.take (k + 1)) = sumL (its.take k) + (its.getD k []).length := by rw [take_snoc h, sumL_snoc]
theorem sumL_le {its : List (List Int)} {k : Nat} : sumL (its.take k) ≤ sumL its := by
  have := List.take_append_drop k its
  have e : ∀ a b : List (List Int), sumL (a ++ b) = sumL a + sumL b := fun a b => by
    induction a with
    | nil => simp [sumL]
    | cons y a ih => simp [sumL, ih]; omega
  have h := e (its.take k) (its.drop k)
  rw [this] at h
  omega

theorem Txt.len_lt {w : World} {a : Option Addr} {t : List Int} (h : Txt w a t) : t = [] ∨ ∃ b o, a = some ⟨b, o, none⟩ := by
  rcases h with h | ⟨b, o, h, _⟩
  · exact .inl h
  · exact .inr ⟨b, o, h⟩

theorem zz12_long (a : Option Addr) (n cap : Nat) (w : World) (h : decide ((1048576 : Int) < (n : Int)) = true) :
    Calls Try.prog 12 #[.slice a n cap] w fun e w' => e = .returned (.bool false) ∧ w' = w := by
  go_enter Try.func12, Try.ntmps12
  go_wp2
  go_ret
  exact ⟨rfl, rfl⟩
theorem zz12_none (a : Option Addr) (cap : Nat) (w : World) :
    Calls Try.prog 12 #[.slice a 0 cap] w fun e w' => e = .returned (.bool true) ∧ w' = w := by
  go_enter Try.func12, Try.ntmps12
  go_wp2
  refine wp_loop_rounds 1 ?_
  rw [rounds_succ]
  go_wp2
  go_ret
  exact ⟨rfl, rfl⟩

/-- The bound's answer: no; or yes, and then no item is long. -/
def Ok12 (its : List (List Int)) (v : Value) : Prop := v = .bool false ∨ (v = .bool true ∧ ∀ k, k < its.length → (its.getD k []).length / 1048577 = 0)

set_option maxRecDepth 100000 in
set_option maxHeartbeats 800000 in
theorem zz12_some (b o cap : Nat) (its : List (List Int)) (w : World) (h : decide ((1048576 : Int) < (its.length : Int)) = false) (hl : its.length / 1048577 = 0) (ht : Tab w b o its) :
    Calls Try.prog 12 #[.slice (some ⟨b, o, none⟩) its.length cap] w fun e w' => ∃ v, e = .returned v ∧ w' = w ∧ Ok12 its v := by
  have HT := hide ht
  clear ht
  go_enter Try.func12, Try.ntmps12
  go_wp2
  go_loop [3, 4] (fun z i => ∃ k q : Nat, k ≤ its.length ∧ q / 1048577 = 0 ∧ i = .int .i64 k ∧ z = .int .i64 q ∧ Hid (∀ j, j < k → (its.getD j []).length / 1048577 = 0)) (fun _ i => its.length - (intOf i).toNat)
  case atStart => exact ⟨0, its.length, Nat.zero_le _, hl, rfl, rfl, fun j hj => absurd hj (Nat.not_lt_zero j)⟩
  case round =>
    obtain ⟨k, q, hk, hq, rfl, rfl, HA⟩ := hrel
    by_cases hlt : k < its.length
    · obtain ⟨a, c, g1, _, _⟩ := HT.out.2 k hlt
      obtain ⟨n, hn⟩ : ∃ n, n = (its.getD k []).length := ⟨_, rfl⟩
      rw [← hn] at g1
      have HN := hide hn
      clear hn
      by_cases h1 : 1048576 < n
      · have d1 : decide ((1048576 : Int) < (n : Int)) = true := decide_eq_true (by omega)
        clear h1
        go_wp2
        go_ret
        exact ⟨_, rfl, rfl, .inl rfl⟩
      · have d1 : decide ((1048576 : Int) < (n : Int)) = false := decide_eq_false (by omega)
        have d3 : n / 1048577 = 0 := by omega
        have HA1 : Hid (∀ j, j < k + 1 → (its.getD j []).length / 1048577 = 0) := fun j hj => by
          rcases Nat.eq_or_lt_of_le (Nat.le_of_lt_succ hj) with r | r
          · rw [r, ← HN.out]; exact d3
          · exact HA.out j r
        clear h1
        by_cases h2 : 1048576 < q + n
        · have d2 : decide ((1048576 : Int) < (q : Int) + (n : Int)) = true := decide_eq_true (by omega)
          clear h2
          go_wp2
          go_ret
          exact ⟨_, rfl, rfl, .inl rfl⟩
        · have d2 : decide ((1048576 : Int) < (q : Int) + (n : Int)) = false := decide_eq_false (by omega)
          have d4 : (q + n) / 1048577 = 0 := by omega
          clear h2
          go_wp2
          go_round
          case rel => exact ⟨k + 1, q + n, by omega, d4, by go_num, by go_num, HA1⟩
          case measure => simp [intOf]; omega
    · have hkn : k = its.length := by omega
      go_wp2
      go_ret
      exact ⟨_, rfl, rfl, .inr ⟨rfl, fun j hj => HA.out j (by omega)⟩⟩

/-! ### zzb1CloneItems -/
theorem q25 : ∀ (w : World) (a : Option Addr) (n c n' c' : Nat), (binOp .eql 25 (.slice a n c) (.slice none n' c')).run Try.prog w = .ok (.bool a.isNone) w := fun w a n c n' c' => Lib.run_eql_slice_nil w _ _ a n c n' c' Try.underlying25

/-- In the middle of the copying: the first k items are copied, the rest are nil. -/
structure CS (w wr : World) (its : List (List Int)) (k : Nat) (es : List Value) : Prop where
  bel : Below w.heap.size w wr
  len : es.length = k
  row : wr.ownsRow w.heap.size 22 1 (.slice (some ⟨w.heap.size, 0, none⟩) its.length its.length) its.length (es ++ List.replicate (its.length - k) (.slice none 0 0))
  done : ∀ (j : Nat) (e : Value) (l : List Int), es[j]? = some e → its[j]? = some l → wr.ownsRow 0 5 1 e l.length (l.map (Value.int .u8))

theorem owns_zero {w : World} {base e n : Nat} {v : Value} {xs : List Value} (h : w.ownsRow base e 1 v n xs) : w.ownsRow 0 e 1 v n xs := by
  refine ⟨h.1, ?_⟩
  rcases h.2 with r | ⟨g, cap, cur, r1, _, r3⟩
  · exact .inl r
  · exact .inr ⟨g, cap, cur, r1, Nat.zero_le _, r3⟩
theorem owns_block {w : World} {base e n b : Nat} {v : Value} {xs : List Value} (h : w.ownsRow base e 1 v n xs) (hb : v.ownBlock = some b) : ∃ cur, w.heap[b]? = some (.cells cur e (0, 0)) := by
  rcases h.2 with ⟨rfl, _⟩ | ⟨g, cap, cur, rfl, _, r3, _⟩
  · cases hb
  · simp only [Value.ownBlock, Option.some.injEq] at hb
    subst hb
    exact ⟨cur, r3⟩
theorem owns_kept {w w' : World} {base e n : Nat} {v : Value} {xs : List Value} (h : w.ownsRow base e 1 v n xs) (hk : ∀ b cur, v.ownBlock = some b → w.heap[b]? = some (.cells cur e (0, 0)) → w'.heap[b]? = w.heap[b]?) : w'.ownsRow base e 1 v n xs := by
  refine ⟨h.1, ?_⟩
  rcases h.2 with r | ⟨g, cap, cur, rfl, r2, r3, r4⟩
  · exact .inl r
  · exact .inr ⟨g, cap, cur, rfl, r2, (hk g cur rfl r3).trans r3, r4⟩
theorem owns_below {w w1 : World} {base e n : Nat} {v : Value} {xs : List Value} (h : w.ownsRow base e 1 v n xs) (hb : Below w.heap.size w w1) : w1.ownsRow base e 1 v n xs := owns_kept h (fun b _ _ hc => hb.block b (lt_of_block hc))

theorem CS.start {w w1 : World} {its : List (List Int)} (hown : w1.ownsRow w.heap.size 22 1 (.slice (some ⟨w.heap.size, 0, none⟩) its.length its.length) its.length (madeCells (Value.slice none 0 0).cells (its.length * 1)).toList) (hgr : w.grownBy w1 none) : CS w w1 its 0 [] := by
  refine ⟨(Below.refl _ w).grown hgr (Nat.le_refl _) (fun b hb => by cases hb), rfl, ?_, fun j e l h => by simp at h⟩
  rw [Nat.mul_one, show (Value.slice none 0 0).cells = #[Value.slice none 0 0] from rfl, toList_madeCells_one] at hown
  simpa using hown
theorem CS.cell {w wr w1 : World} {its : List (List Int)} {k : Nat} {es : List Value} (h : CS w wr its k es) (hb : Below wr.heap.size wr w1) (hk : k < its.length) : w1.cell? ⟨w.heap.size, k, none⟩ = some (.slice none 0 0) ∧ w1.frozen? ⟨w.heap.size, k, none⟩ = false := by
  have hr := owns_below h.row hb
  refine ⟨?_, hr.frozenAt k⟩
  rw [hr.cellAt k (by omega), List.getElem?_append_right (by rw [h.len]; exact Nat.le_refl _), h.len, Nat.sub_self, List.getElem?_replicate, if_pos (by omega)]
theorem CS.step {w wr w1 : World} {its : List (List Int)} {k : Nat} {es : List Value} (h : CS w wr its k es) (hb : Below wr.heap.size wr w1) (hk : k < its.length) {v : Value} {B : Nat} (hv : w1.ownsRow B 5 1 v (its.getD k []).length ((its.getD k []).map (Value.int .u8))) :
    CS w (w1.setCell ⟨w.heap.size, k, none⟩ v) its (k + 1) (es ++ [v]) := by
  have hr := owns_below h.row hb
  obtain ⟨r1, r2, cur, r3⟩ := row_of hr
  have s0 := h.bel.size
  have hsame : ∀ (b : Nat) (c : Array Value), w1.heap[b]? = some (.cells c 5 (0, 0)) → (w1.setCell ⟨w.heap.size, k, none⟩ v).heap[b]? = w1.heap[b]? := fun b c hc => heap_setCell_other w1 _ b _ (rows_apart r3 hc)
  refine ⟨(h.bel.trans (hb.mono s0)).setCell (Nat.le_refl _) _, by simp [h.len], ?_, fun j e l h1 h2 => ?_⟩
  · have e1 : (es ++ List.replicate (its.length - k) (Value.slice none 0 0)).set k v = es ++ [v] ++ List.replicate (its.length - (k + 1)) (Value.slice none 0 0) := by
      rw [List.set_append_right _ _ (by rw [h.len]; exact Nat.le_refl _), h.len, Nat.sub_self, show its.length - k = (its.length - (k + 1)) + 1 by omega, List.replicate_succ]
      simp
    rw [← e1]
    exact (hr.stored k v).1
  · rcases Nat.lt_or_ge j es.length with hj | hj
    · rw [List.getElem?_append_left hj] at h1
      exact owns_kept (owns_below (h.done j e l h1 h2) hb) (fun b c _ hc => hsame b c hc)
    · rw [List.getElem?_append_right hj] at h1
      have hj0 : j - es.length = 0 := by
        have := (List.getElem?_eq_some_iff.1 h1).1
        simp only [List.length_singleton] at this
        omega
      have hjk : j = k := by have := h.len; omega
      rw [hj0] at h1
      simp only [List.getElem?_cons_zero, Option.some.injEq] at h1
      subst h1
      have hl : its.getD k [] = l := by rw [← hjk]; simp [List.getD, h2]
      rw [hl] at hv
      exact owns_kept (owns_zero hv) (fun b c _ hc => hsame b c hc)
theorem CS.fin {w wr : World} {its : List (List Int)} {k : Nat} {es : List Value} (h : CS w wr its k es) (hk : k = its.length) : Tab wr w.heap.size 0 its := by
  obtain ⟨r1, r2, cur, r3⟩ := row_of h.row
  refine ⟨r2, fun j hj => ?_⟩
  have hje : j < es.length := by rw [h.len, hk]; exact hj
  have hd := h.done j es[j] its[j] (List.getElem?_eq_getElem hje) (List.getElem?_eq_getElem hj)
  have e1 : its.getD j [] = its[j] := by simp [List.getD, hj]
  rw [e1]
  obtain ⟨a, c, hv, _, ht, hn⟩ := txt_of_owns hd
  refine ⟨a, c, ?_, ht, hn⟩
  rw [Nat.zero_add, h.row.cellAt j (by omega), List.getElem?_append_left hje, List.getElem?_eq_getElem hje, hv]

set_option maxRecDepth 100000 in
set_option maxHeartbeats 800000 in
theorem cloneItems_any (b o cap : Nat) (its : List (List Int)) (w : World) (hl : its.length / 1048577 = 0) (hi : ∀ k, k < its.length → (its.getD k []).length / 1048577 = 0) (ht : Tab w b o its) :
    Calls Try.prog 13 #[.slice (some ⟨b, o, none⟩) its.length cap] w fun e w' => e = .returned (.slice (some ⟨w.heap.size, 0, none⟩) its.length its.length) ∧ Below w.heap.size w w' ∧ Tab w' w.heap.size 0 its := by
  obtain ⟨i22, hi22, hz220, hz221, hz222⟩ := info_parts Try.info22
  have q := q25
  have HT := hide ht
  have HI := hide hi
  clear ht hi
  go_enter Try.func13, Try.ntmps13
  go_wp2_with (at_make; refine wpList_make_full _ rfl (.tmp 8) (.tmp 8) 25 rfl w.heap.size 22 i22 (.slice none 0 0) 1 Try.underlying25 hi22 hz220 hz221 _ _ _ _ its.length rfl rfl rfl rfl (by rw [hz222]; omega) (by unfold maxLen; omega) (Nat.le_refl _) ?_; intro w1 hown hgr; have S0 := hide (CS.start hown hgr); clear hown hgr)
  go_loopw [4] (fun i wr => ∃ (k : Nat) (es : List Value), k ≤ its.length ∧ i = .int .i64 k ∧ CS w wr its k es) (fun i _ => its.length - (intOf i).toNat)
  case atStart => exact ⟨0, [], Nat.zero_le _, rfl, S0.out⟩
  case round =>
    obtain ⟨k, es, hk, rfl, hS⟩ := hrel
    clear S0
    have HS := hide hS
    by_cases hlt : k < its.length
    · obtain ⟨a, c, g1, t1, n1⟩ := (HT.out.kept hS.bel).2 k hlt
      have T1 := hide t1
      have N1 := hide n1
      obtain ⟨l, hll⟩ : ∃ l, l = its.getD k [] := ⟨_, rfl⟩
      have hL := HI.out k hlt
      rw [← hll] at g1 t1 n1 hL
      have T1 := hide t1
      have N1 := hide n1
      have HLL := hide hll
      clear t1 n1 hll hS
      go_wp2_with fail
      refine (clone_any a c l _ hL N1.out T1.out).mono ?_
      rintro e w2 ⟨v, rfl, hB, hO, _⟩
      obtain ⟨a2, c2, rfl, _, _, _⟩ := txt_of_owns hO
      obtain ⟨p1, p2⟩ := HS.out.cell hB hlt
      rw [HLL.out] at hO
      have S1 := hide (HS.out.step hB hlt hO)
      rw [← HLL.out] at S1
      clear hB hO
      go_wp2
      go_roundw
      case rel => exact ⟨k + 1, _, by omega, by go_num, S1.out⟩
      case measure => simp [intOf]; omega
    · clear hS
      go_wp2
      go_ret
      exact ⟨rfl, HS.out.bel, HS.out.fin (by omega)⟩

end Go.Proofs.Qxb6603816a
