/-
  labelStarts (29): the labels' starts, appended within the room of an array's slice.
-/
import Derived.Test.Qxb6603816aLabels
import Derived.ArgAppend
namespace Go.Proofs.Qxb6603816a
open Go.RowKit

/-- append of one element where there is room, whatever block the slice lies in. -/
theorem wpList_append_room_one {P : Program} (w : World) {ops : Array Oper} {rest : List Oper} {o : Oper} {a : Act} {Q : Exit → Act → World → Prop}
    (hg : o.guard = none) (s x : Operand) (t : TypeId) (hop : o.op = Op.call { callee := Callee.builtin Builtin.append, args := #[s, x], argTypes := #[t, t] })
    (e : TypeId) (i : TypeInfo) (ht : P.underlying t = some (.slice e)) (hi : P.info? e = some i) (h1 : i.size = 1)
    (b n cap : Nat) (hs : a.eval s = .slice (some ⟨b, 0, none⟩) n cap) (ad : Addr) (u : Value) (hx : a.eval x = .slice (some ad) 1 1) (hu : w.cell? ad = some u) (hone : u.oneCell' = true)
    (hroom : n + 1 ≤ cap) (hc : (w.cell? ⟨b, n, none⟩).isSome = true) (hf : w.frozen? ⟨b, n, none⟩ = false)
    (hK : wpList P ops Q rest (a.put o.dst (.slice (some ⟨b, 0, none⟩) (n + 1) cap)) (w.setCell ⟨b, n, none⟩ u)) :
    wpList P ops Q (o :: rest) a w := by
  refine wpList_plain hg fun K hK' => ?_
  have hrun := run_append_room_cells (P := P) (w := w) t o.type e i ht hi b 0 n cap ad 1 1 [u] (by simp [h1]) (fun j v hv => by
    match j, hv with
    | 0, hv => simp at hv; subst hv; simpa [Addr.add] using hu) (by simpa using hone) hroom (fun j hj => by
      have : j = 0 := by simp at hj; omega
      subst this
      simpa [h1] using hc) (fun j hj => by
      have : j = 0 := by simp at hj; omega
      subst this
      simpa [h1] using hf)
  simp only [h1, Nat.mul_one, Nat.zero_add, World.setCells] at hrun
  unfold Oper.wp
  simp [execOp, hop, resolve, invoke, builtin, hs, hx, hrun, Result.andThen]
  exact hK' _ _ hK

/-- In the middle of the gathering. -/
structure SS (w wr : World) (s : ByteArray) (b j : Nat) (cur : Array Value) : Prop where
  gb : w.grownBy wr (some b)
  row : wr.heap[b]? = some (.cells cur 46 (0, 0))
  size : cur.size = 127
  got : ∀ i, i < j → cur[i]? = some (.int .u8 (P s i))

theorem grown_trans {a b c : World} {r : Option Nat} (h : a.grownBy b r) (k : b.grownBy c r) : a.grownBy c r :=
  ⟨k.os.trans h.os, k.tape.trans h.tape, k.output.trans h.output, Nat.le_trans h.size k.size, fun i hi hn => (k.block i (Nat.lt_of_lt_of_le hi h.size) hn).trans (h.block i hi hn)⟩
theorem grown_set (w : World) (b i : Nat) (u : Value) : w.grownBy (w.setCell ⟨b, i, none⟩ u) (some b) :=
  ⟨rfl, rfl, rfl, by simp [World.setCell], fun k _ hk => heap_setCell_other w ⟨b, i, none⟩ k u (fun e => hk (by simp [e]))⟩
theorem SS.step {w wr : World} {s : ByteArray} {b j : Nat} {cur : Array Value} (h : SS w wr s b j cur) (hj : j < 127) (X : Obj) :
    SS w ((wr.alloc X).setCell ⟨b, j, none⟩ (.int .u8 (P s j))) s b (j + 1) (cur.setIfInBounds j (.int .u8 (P s j))) := by
  have hb := lt_of_block h.row
  have h1 : (wr.alloc X).heap[b]? = some (.cells cur 46 (0, 0)) := (Below.heap_alloc wr X b hb).trans h.row
  refine ⟨grown_trans (grown_trans h.gb (World.grownBy_alloc wr X _)) (grown_set _ _ _ _), heap_setCell_same _ b j cur 46 _ h1, by simpa using h.size, fun i hi => ?_⟩
  by_cases e : i = j
  · subst e
    rw [Array.getElem?_setIfInBounds_self_of_lt (by rw [h.size]; exact hj)]
  · rw [Array.getElem?_setIfInBounds_ne (by omega)]
    exact h.got i (by omega)
theorem SS.spare {w wr : World} {s : ByteArray} {b j : Nat} {cur : Array Value} (h : SS w wr s b j cur) (hj : j < 127) (X : Obj) : ((wr.alloc X).cell? ⟨b, j, none⟩).isSome = true ∧ (wr.alloc X).frozen? ⟨b, j, none⟩ = false := by
  have hb := lt_of_block h.row
  have h1 : (wr.alloc X).heap[b]? = some (.cells cur 46 (0, 0)) := (Below.heap_alloc wr X b hb).trans h.row
  refine ⟨?_, frozen_of_row _ b j cur 46 h1⟩
  rw [cell_of_row _ b j cur 46 (0, 0) h1, Array.getElem?_eq_getElem (by rw [h.size]; exact hj)]
  rfl

set_option maxRecDepth 100000 in
set_option maxHeartbeats 800000 in
theorem starts_any (s : ByteArray) (m b : Nat) (cur : Array Value) (w : World) (hW : Wire s m) (hrow : w.heap[b]? = some (.cells cur 46 (0, 0))) (hcs : cur.size = 127) :
    Calls Try.prog 29 #[.agg #[.string s], .slice (some ⟨b, 0, none⟩) 0 127] w fun e w' => e = .returned (.slice (some ⟨b, 0, none⟩) m 127) ∧ w.grownBy w' (some b) ∧ ∃ cur', w'.heap[b]? = some (.cells cur' 46 (0, 0)) ∧ ∀ j, j < m → cur'[j]? = some (.int .u8 (P s j)) := by
  obtain ⟨i5, hi5, hz50, hz51, hz52⟩ := info_parts Try.info5
  have hs : s.size / 256 = 0 := by have := hW.size; omega
  have hm : m ≤ 127 := by have := hW.m_le; omega
  have hb := lt_of_block hrow
  have HW := hide hW
  have S0 := hide (show SS (w.alloc (.cells #[.string s] 35)) (w.alloc (.cells #[.string s] 35)) s b 0 cur from ⟨World.grownBy.refl _ _, (Below.heap_alloc w _ b hb).trans hrow, hcs, fun i hi => absurd hi (Nat.not_lt_zero i)⟩)
  clear hW hrow hcs
  go_enter Try.func29, Try.ntmps29
  go_wp2
  go_loopw [1, 5] (fun v i wr => ∃ (k j : Nat) (cur : Array Value), i = .int .i64 k ∧ v = .slice (some ⟨b, 0, none⟩) j 127 ∧ Hid (k = P s j) ∧ j ≤ m ∧ SS (w.alloc (.cells #[.string s] 35)) wr s b j cur) (fun _ i _ => s.size + 1 - (intOf i).toNat)
  case atStart => exact ⟨0, 0, cur, rfl, rfl, rfl, Nat.zero_le _, S0.out⟩
  case round =>
    obtain ⟨k, j, cur2, rfl, rfl, HK, hj, hS⟩ := hrel
    clear S0
    have HS := hide hS
    have g0 : wr.cell? ⟨w.heap.size, 0, none⟩ = some (.string s) := by
      have := hS.gb.block w.heap.size (by simp) (by simp; omega)
      rw [World.cell?_of_block (w := w.alloc (.cells #[.string s] 35)) this, cell_of_row _ w.heap.size 0 #[.string s] 35 (0, 0) (heap_alloc_new w _)]
      rfl
    clear hS
    by_cases hjm : j < m
    · obtain ⟨y1, y2⟩ := HW.out.lab j hjm
      rw [← HK.out] at y1 y2
      have hk : k < s.size := by omega
      obtain ⟨c, hc⟩ : ∃ c, s[k].toNat = c := ⟨_, rfl⟩
      have hcb : c = byt s k := by rw [← hc, byt_get hk]
      rw [← hcb] at y1 y2
      have q1 : (k : Int) < (s.size : Int) - 1 := by omega
      have HK1 : Hid (k + (1 + c) = P s (j + 1)) := by
        show _ = _
        rw [P_succ, ← HK.out, ← hcb]
        omega
      have hsp := HS.out.spare (show j < 127 by omega) (.cells #[.int .u8 (k : Int)] 5)
      have hst := HS.out.step (show j < 127 by omega) (.cells #[.int .u8 (k : Int)] 5)
      rw [← HK.out] at hst
      have SP := hide hsp
      have ST := hide hst
      clear hcb hsp hst
      have g1 : ∀ v, ((wr.alloc (.cells #[.int .u8 (k : Int)] 5)).setCell ⟨b, j, none⟩ v).cell? ⟨w.heap.size, 0, none⟩ = some (.string s) := fun v => by
        rw [World.cell?_setCell_other _ _ _ _ (fun e => by have h9 : b = w.heap.size := congrArg Addr.block e; omega), World.cell?_of_block (w := wr) (Below.heap_alloc wr _ w.heap.size (block_lt_of_cell g0))]
        exact g0
      go_wp2_with (at_builtin; refine wpList_append_room_one _ (by rfl) (.tmp 20) (.tmp 23) 22 (by rfl) 5 i5 Try.underlying22 hi5 hz51 b j 127 (by rfl) ⟨wr.heap.size, 0, none⟩ (.int .u8 (k : Int)) (by rfl) (by rw [cell_of_row _ wr.heap.size 0 #[.int .u8 (k : Int)] 5 (0, 0) (heap_alloc_new wr _)]; rfl) rfl (by omega) SP.out.1 SP.out.2 ?_)
      go_roundw
      case rel => exact ⟨k + (1 + c), j + 1, _, by go_num, rfl, HK1, by omega, ST.out⟩
      case measure => simp [intOf]; omega
    · have hjm2 : j = m := by omega
      have hkm : (s.size : Int) - 1 ≤ (k : Int) := by
        rcases HW.out.fin with ⟨r1, r2⟩ | ⟨r1, r2⟩
        · omega
        · rw [← hjm2, ← HK.out] at r1; omega
      have HJ := hide hjm2
      clear hjm2
      go_wp2
      go_ret
      refine ⟨congrArg (fun n => Ending.returned (.slice (some ⟨b, 0, none⟩) n 127)) HJ.out, grown_trans (World.grownBy_alloc w _ _) HS.out.gb, cur2, HS.out.row, ?_⟩
      rw [← HJ.out]
      exact HS.out.got

end Go.Proofs.Qxb6603816a
