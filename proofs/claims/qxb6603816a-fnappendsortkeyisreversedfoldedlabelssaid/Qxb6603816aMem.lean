/-
  Byte slices and slices of byte slices of the call's own: what they read, and what leaves them as they are.
-/
import Derived.Test.Qxb6603816aRows
import Derived.Test.Qxb6603816aPlain
import Derived.WalkKit
import Derived.Deep.AppendLies
namespace Go.Proofs.Qxb6603816a
open Go.RowKit

theorem Try.info5 : (Try.prog.info? 5).map (fun i => (i.zero, i.size, i.bytes)) = some (some (.int .u8 0), 1, 1) := by kernel_rfl
theorem Try.info22 : (Try.prog.info? 22).map (fun i => (i.zero, i.size, i.bytes)) = some (some (.slice none 0 0), 1, 24) := by kernel_rfl
theorem hide {p : Prop} (h : p) : Hid p := h
theorem ret_bool {a b : Bool} (h : a = b) : Ending.returned (.bool a) = .returned (.bool b) := by rw [h]

/-- e is a byte slice of the call's own (blocks from 'base' on) that reads l; nil just where l is empty. -/
def Own (w : World) (base : Nat) (e : Value) (l : List Int) : Prop := w.ownsRow base 5 1 e l.length (l.map (Value.int .u8)) ∧ (l = [] → e = .slice none 0 0)

theorem Own.nil (w : World) (base : Nat) : Own w base (.slice none 0 0) [] := ⟨World.ownsRow_nil w base 5 1, fun _ => rfl⟩
theorem Own.mono {w : World} {b b' : Nat} {e : Value} {l : List Int} (h : Own w b e l) (hb : b' ≤ b) : Own w b' e l := by
  refine ⟨⟨h.1.1, ?_⟩, h.2⟩
  rcases h.1.2 with r | ⟨g, cap, cur, r1, r2, r3⟩
  · exact .inl r
  · exact .inr ⟨g, cap, cur, r1, by omega, r3⟩
theorem Own.block {w : World} {base : Nat} {e : Value} {l : List Int} (h : Own w base e l) {b : Nat} (hb : e.ownBlock = some b) : base ≤ b ∧ b < w.heap.size ∧ ∃ cur, w.heap[b]? = some (.cells cur 5 (0, 0)) := by
  rcases h.1.2 with ⟨rfl, _⟩ | ⟨g, cap, cur, rfl, r2, r3, _⟩
  · cases hb
  · simp only [Value.ownBlock, Option.some.injEq] at hb
    subst hb
    exact ⟨r2, lt_of_block r3, cur, r3⟩
theorem Own.kept {w w' : World} {base : Nat} {e : Value} {l : List Int} (h : Own w base e l) (hk : ∀ b cur, e.ownBlock = some b → w.heap[b]? = some (.cells cur 5 (0, 0)) → w'.heap[b]? = w.heap[b]?) : Own w' base e l := by
  refine ⟨⟨h.1.1, ?_⟩, h.2⟩
  rcases h.1.2 with r | ⟨g, cap, cur, rfl, r2, r3, r4⟩
  · exact .inl r
  · exact .inr ⟨g, cap, cur, rfl, r2, (hk g cur rfl r3).trans r3, r4⟩
/-- What it looks like where it is not empty. -/
theorem Own.form {w : World} {base : Nat} {e : Value} {l : List Int} (h : Own w base e l) (hl : l ≠ []) :
    ∃ g cap, e = .slice (some ⟨g, 0, none⟩) l.length cap ∧ l.length ≤ cap ∧ base ≤ g ∧ g < w.heap.size ∧ ∀ j, j < l.length → w.cell? ⟨g, j, none⟩ = some (.int .u8 (l.getD j 0)) := by
  rcases h.1.2 with ⟨_, r⟩ | ⟨g, cap, cur, rfl, r2, r3, r4, _⟩
  · exact absurd (List.eq_nil_of_length_eq_zero r) hl
  · refine ⟨g, cap, rfl, r4, r2, lt_of_block r3, fun j hj => ?_⟩
    rw [h.1.cellAt j (by omega)]
    simp [List.getD, hj]

/-- The values 'es' are byte slices that read 'its', one for one; each lies below block H. -/
def Done (w : World) (H : Nat) (es : List Value) (its : List (List Int)) : Prop :=
  es.length = its.length ∧ ∀ (k : Nat) (e : Value) (l : List Int), es[k]? = some e → its[k]? = some l → Own w 0 e l ∧ ∀ b, e.ownBlock = some b → b < H
theorem Done.nil (w : World) (H : Nat) : Done w H [] [] := ⟨rfl, fun k e l h => by simp at h⟩
theorem Done.mono {w : World} {H H' : Nat} {es : List Value} {its : List (List Int)} (h : Done w H es its) (hH : H ≤ H') : Done w H' es its :=
  ⟨h.1, fun k e l h1 h2 => ⟨(h.2 k e l h1 h2).1, fun b hb => Nat.lt_of_lt_of_le ((h.2 k e l h1 h2).2 b hb) hH⟩⟩
theorem Done.kept {w w' : World} {H : Nat} {es : List Value} {its : List (List Int)} (h : Done w H es its) (hk : ∀ b cur, b < H → w.heap[b]? = some (.cells cur 5 (0, 0)) → w'.heap[b]? = w.heap[b]?) : Done w' H es its :=
  ⟨h.1, fun k e l h1 h2 => ⟨(h.2 k e l h1 h2).1.kept (fun b cur hb hc => hk b cur ((h.2 k e l h1 h2).2 b hb) hc), (h.2 k e l h1 h2).2⟩⟩
theorem Done.snoc {w : World} {H : Nat} {es : List Value} {its : List (List Int)} (h : Done w H es its) {e : Value} {l : List Int} (ho : Own w 0 e l) (hb : ∀ b, e.ownBlock = some b → b < H) : Done w H (es ++ [e]) (its ++ [l]) := by
  refine ⟨by simp [h.1], fun k e' l' h1 h2 => ?_⟩
  rcases Nat.lt_or_ge k es.length with hk | hk
  · rw [List.getElem?_append_left hk] at h1
    rw [List.getElem?_append_left (by rw [← h.1]; exact hk)] at h2
    exact h.2 k e' l' h1 h2
  · rw [List.getElem?_append_right hk] at h1
    rw [List.getElem?_append_right (by rw [← h.1]; exact hk)] at h2
    have hk0 : k - es.length = 0 := by
      have := (List.getElem?_eq_some_iff.1 h1).1
      simp only [List.length_singleton] at this
      omega
    rw [hk0] at h1
    rw [← h.1, hk0] at h2
    simp only [List.getElem?_cons_zero, Option.some.injEq] at h1 h2
    subst h1 h2
    exact ⟨ho, hb⟩

/-- v is a slice of byte slices of the call's own (blocks from 'base' on) that reads its. -/
def Items (w : World) (base : Nat) (v : Value) (its : List (List Int)) : Prop := ∃ es, w.ownsRow base 22 1 v its.length es ∧ Done w w.heap.size es its

theorem Items.kept {w w' : World} {base : Nat} {v : Value} {its : List (List Int)} (h : Items w base v its) (hb : Below w.heap.size w w') : Items w' base v its := by
  obtain ⟨es, h1, h2⟩ := h
  refine ⟨es, ⟨h1.1, ?_⟩, (h2.mono hb.size).kept (fun b cur hlt hc => ?_)⟩
  · rcases h1.2 with r | ⟨g, cap, cur, r1, r2, r3, r4⟩
    · exact .inl r
    · exact .inr ⟨g, cap, cur, r1, r2, (hb.block g (lt_of_block r3)).trans r3, r4⟩
  · exact hb.block b (lt_of_block hc)
theorem Items.form {w : World} {base : Nat} {v : Value} {its : List (List Int)} (h : Items w base v its) (hl : 0 < its.length) :
    ∃ g cap, v = .slice (some ⟨g, 0, none⟩) its.length cap ∧ its.length ≤ cap ∧ base ≤ g ∧ g < w.heap.size ∧ ∀ k, k < its.length → ∃ e, w.cell? ⟨g, k, none⟩ = some e ∧ Own w 0 e (its.getD k []) := by
  obtain ⟨es, h1, h2⟩ := h
  rcases h1.2 with ⟨_, r⟩ | ⟨g, cap, cur, rfl, r2, r3, r4, _⟩
  · omega
  · refine ⟨g, cap, rfl, r4, r2, lt_of_block r3, fun k hk => ?_⟩
    have hke : k < es.length := by rw [h2.1]; exact hk
    refine ⟨es[k], ?_, ?_⟩
    · rw [h1.cellAt k (by omega), List.getElem?_eq_getElem hke]
    · have := (h2.2 k es[k] its[k] (List.getElem?_eq_getElem hke) (List.getElem?_eq_getElem hk)).1
      simpa [List.getD, hk] using this

/-- A row of slices and a row of bytes are two rows. -/
theorem rows_apart {w : World} {g b : Nat} {c1 c2 : Array Value} (h1 : w.heap[g]? = some (.cells c1 22 (0, 0))) (h2 : w.heap[b]? = some (.cells c2 5 (0, 0))) : b ≠ g := by
  rintro rfl
  rw [h1] at h2
  simp at h2
theorem row_of {w : World} {base e g n cap : Nat} {xs : List Value} (h : w.ownsRow base e 1 (.slice (some ⟨g, 0, none⟩) n cap) n xs) : base ≤ g ∧ g < w.heap.size ∧ ∃ cur, w.heap[g]? = some (.cells cur e (0, 0)) := by
  rcases h.2 with ⟨h', _⟩ | ⟨g', cap', cur, h', r2, r3, _⟩
  · simp at h'
  · simp only [Value.slice.injEq, Option.some.injEq, Addr.mk.injEq, and_true, true_and] at h'
    obtain ⟨rfl, rfl⟩ := h'
    exact ⟨r2, lt_of_block r3, cur, r3⟩

end Go.Proofs.Qxb6603816a
