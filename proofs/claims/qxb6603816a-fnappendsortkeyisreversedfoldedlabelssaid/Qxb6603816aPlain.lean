/-
  THE PLAIN MATHEMATICS OF SEAT b6603816a, first part: value lists. No Go, no program. Bytes are numbers.
  'spl': what splitValueList gives; 'par': what the two-pass model gives; 'unesc': one piece unescaped; 'joinE': items escaped and joined.
-/
namespace Go.Proofs.Qxb6603816a.Pl

/-- splitValueList, from a place on: the items that are done, the one that is being gathered. -/
def spl : List Int → List (List Int) → List Int → List (List Int)
  | [], done, last => done ++ [last]
  | [c], done, last => if c = 44 then done ++ [last] ++ [[]] else done ++ [last ++ [c]]
  | c :: d :: t, done, last => if c = 44 then spl (d :: t) (done ++ [last]) [] else if c = 92 then spl t done (last ++ [d]) else spl (d :: t) done (last ++ [c])

theorem spl_nil (done : List (List Int)) (last : List Int) : spl [] done last = done ++ [last] := rfl
theorem spl_comma (c : Int) (h : c = 44) (t : List Int) (done : List (List Int)) (last : List Int) : spl (c :: t) done last = spl t (done ++ [last]) [] := by
  cases t with
  | nil => simp [spl, h]
  | cons d t => rw [spl, if_pos h]
theorem spl_esc (c : Int) (h : c = 92) (d : Int) (t : List Int) (done : List (List Int)) (last : List Int) : spl (c :: d :: t) done last = spl t done (last ++ [d]) := by
  rw [spl, if_neg (by omega), if_pos h]
theorem spl_plain (c : Int) (t : List Int) (h : c ≠ 44) (h2 : c ≠ 92 ∨ t = []) (done : List (List Int)) (last : List Int) : spl (c :: t) done last = spl t done (last ++ [c]) := by
  cases t with
  | nil => simp [spl, h]
  | cons d t =>
    have h3 : c ≠ 92 := by
      rcases h2 with h2 | h2
      · exact h2
      · cases h2
    rw [spl, if_neg h, if_neg h3]

/-- One piece, unescaped. -/
def unesc : List Int → List Int
  | [] => []
  | [c] => [c]
  | c :: d :: t => if c = 92 then d :: unesc t else c :: unesc (d :: t)
theorem unesc_esc (c : Int) (h : c = 92) (d : Int) (t : List Int) : unesc (c :: d :: t) = d :: unesc t := by rw [unesc, if_pos h]
theorem unesc_plain (c : Int) (t : List Int) (h : c ≠ 92 ∨ t = []) : unesc (c :: t) = c :: unesc t := by
  cases t with
  | nil => rfl
  | cons d t =>
    have h3 : c ≠ 92 := by
      rcases h with h | h
      · exact h
      · cases h
    rw [unesc, if_neg h3]
theorem unesc_len (n : Nat) : ∀ s : List Int, s.length ≤ n → (unesc s).length ≤ s.length := by
  induction n with
  | zero => intro s h; cases s with
    | nil => exact Nat.le_refl _
    | cons c t => simp at h
  | succ n ih =>
    intro s h
    match s with
    | [] => exact Nat.le_refl _
    | [c] => exact Nat.le_refl _
    | c :: d :: t =>
      simp only [List.length_cons] at h
      by_cases hc : c = 92
      · rw [unesc_esc c hc]; have := ih t (by omega); simp only [List.length_cons]; omega
      · rw [unesc_plain c _ (.inl hc)]; have := ih (d :: t) (by simp only [List.length_cons]; omega); simp only [List.length_cons] at this ⊢; omega

/-- The two-pass model, from a place on: the escapes right before it, the piece so far, the pieces that are done. -/
def par : List Int → Nat → List Int → List (List Int) → List (List Int)
  | [], _, p, out => out ++ [unesc p]
  | c :: t, r, p, out => if c = 92 then par t (r + 1) (p ++ [c]) out else if c = 44 ∧ r % 2 = 0 then par t 0 [] (out ++ [unesc p]) else par t 0 (p ++ [c]) out
theorem par_nil (r : Nat) (p : List Int) (out : List (List Int)) : par [] r p out = out ++ [unesc p] := rfl
theorem par_esc (c : Int) (h : c = 92) (t : List Int) (r : Nat) (p : List Int) (out : List (List Int)) : par (c :: t) r p out = par t (r + 1) (p ++ [c]) out := by rw [par, if_pos h]
theorem par_sep (c : Int) (h : c = 44) (t : List Int) (r : Nat) (hr : r % 2 = 0) (p : List Int) (out : List (List Int)) : par (c :: t) r p out = par t 0 [] (out ++ [unesc p]) := by
  rw [par, if_neg (by omega), if_pos ⟨h, hr⟩]
theorem par_other (c : Int) (h : c ≠ 92) (t : List Int) (r : Nat) (hr : ¬ (c = 44 ∧ r % 2 = 0)) (p : List Int) (out : List (List Int)) : par (c :: t) r p out = par t 0 (p ++ [c]) out := by
  rw [par, if_neg h, if_neg hr]

/-- A piece in which no escape is left open. -/
def Whole (p : List Int) : Prop := ∀ q, unesc (p ++ q) = unesc p ++ unesc q
theorem whole_nil : Whole [] := fun _ => rfl
theorem whole_plain {p : List Int} (h : Whole p) (c : Int) (hc : c ≠ 92) : Whole (p ++ [c]) ∧ unesc (p ++ [c]) = unesc p ++ [c] := by
  have e : unesc (p ++ [c]) = unesc p ++ [c] := by rw [h]; rfl
  refine ⟨fun q => ?_, e⟩
  rw [e, List.append_assoc, h, List.append_assoc, List.singleton_append, unesc_plain c q (.inl hc), List.singleton_append]
theorem whole_esc {p : List Int} (h : Whole p) (c d : Int) (hc : c = 92) : Whole (p ++ [c, d]) ∧ unesc (p ++ [c, d]) = unesc p ++ [d] := by
  have e : unesc (p ++ [c, d]) = unesc p ++ [d] := by rw [h, unesc_esc c hc]; rfl
  refine ⟨fun q => ?_, e⟩
  rw [e, List.append_assoc, h, List.append_assoc, show [c, d] ++ q = c :: d :: q from rfl, unesc_esc c hc, List.singleton_append]

/-- THE FIRST LAW: the two agree. -/
theorem par_spl (n : Nat) : ∀ (t : List Int), t.length ≤ n → ∀ (r : Nat) (p : List Int) (out : List (List Int)), r % 2 = 0 → Whole p → par t r p out = spl t out (unesc p) := by
  induction n with
  | zero =>
    intro t h r p out _ _
    cases t with
    | nil => rfl
    | cons c t => simp at h
  | succ n ih =>
    intro t h r p out hr hp
    match t with
    | [] => rfl
    | c :: t =>
      simp only [List.length_cons] at h
      by_cases h92 : c = 92
      · match t with
        | [] =>
          rw [par_esc c h92, par_nil, spl_plain c [] (by omega) (.inr rfl), spl_nil, hp]
          rfl
        | d :: t =>
          simp only [List.length_cons] at h
          obtain ⟨w1, w2⟩ := whole_esc hp c d h92
          rw [spl_esc c h92, par_esc c h92]
          by_cases hd : d = 92
          · rw [par_esc d hd, ih t (by omega) (r + 1 + 1) (p ++ [c] ++ [d]) out (by omega) (by simpa using w1)]
            rw [show p ++ [c] ++ [d] = p ++ [c, d] by simp, w2]
          · rw [par_other d hd t (r + 1) (by omega), ih t (by omega) 0 (p ++ [c] ++ [d]) out rfl (by simpa using w1)]
            rw [show p ++ [c] ++ [d] = p ++ [c, d] by simp, w2]
      · by_cases h44 : c = 44
        · rw [par_sep c h44 t r hr, spl_comma c h44, ih t (by omega) 0 [] _ rfl whole_nil]
          rfl
        · obtain ⟨w1, w2⟩ := whole_plain hp c h92
          rw [par_other c h92 t r (by omega), spl_plain c t h44 (.inl h92), ih t (by omega) 0 _ out rfl w1, w2]
theorem law1 (t : List Int) : par t 0 [] [] = spl t [] [] := par_spl t.length t (Nat.le_refl _) 0 [] [] rfl whole_nil

theorem spl_len (n : Nat) : ∀ (t : List Int), t.length ≤ n → ∀ (done : List (List Int)) (last : List Int), 0 < (spl t done last).length := by
  induction n with
  | zero =>
    intro t h done last
    cases t with
    | nil => simp [spl_nil]
    | cons c t => simp at h
  | succ n ih =>
    intro t h done last
    match t with
    | [] => simp [spl_nil]
    | [c] => rw [spl]; split <;> simp
    | c :: d :: t =>
      simp only [List.length_cons] at h
      rw [spl]
      split
      · exact ih _ (by simp only [List.length_cons]; omega) _ _
      · split
        · exact ih _ (by omega) _ _
        · exact ih _ (by simp only [List.length_cons]; omega) _ _

/-! ### Items escaped and joined -/
def esc1 (c : Int) : List Int := if c = 44 ∨ c = 92 then [92, c] else [c]
def esc : List Int → List Int
  | [] => []
  | c :: t => esc1 c ++ esc t
theorem esc_snoc (x : List Int) (c : Int) : esc (x ++ [c]) = esc x ++ esc1 c := by
  induction x with
  | nil => simp [esc]
  | cons d x ih => simp [esc, ih]
theorem esc_len (x : List Int) : (esc x).length ≤ 2 * x.length := by
  induction x with
  | nil => exact Nat.le_refl _
  | cons c x ih =>
    have : (esc1 c).length ≤ 2 := by unfold esc1; split <;> simp
    simp only [esc, List.length_append, List.length_cons]; omega
/-- The text of the first items. -/
def joinE : List (List Int) → List Int
  | [] => []
  | [x] => esc x
  | x :: y :: r => esc x ++ 44 :: joinE (y :: r)
theorem joinE_snoc (l : List (List Int)) (x : List Int) (h : l ≠ []) : joinE (l ++ [x]) = joinE l ++ 44 :: esc x := by
  induction l with
  | nil => exact absurd rfl h
  | cons a l ih =>
    cases l with
    | nil => rfl
    | cons b l =>
      have := ih (by simp)
      simp only [List.cons_append, joinE] at this ⊢
      rw [this]
      simp
theorem spl_escaped (x : List Int) : ∀ (t : List Int) (done : List (List Int)) (last : List Int), spl (esc x ++ t) done last = spl t done (last ++ x) := by
  induction x with
  | nil => intro t done last; simp [esc]
  | cons c x ih =>
    intro t done last
    simp only [esc, esc1]
    by_cases h : c = 44 ∨ c = 92
    · rw [if_pos h, show [92, c] ++ esc x ++ t = 92 :: c :: (esc x ++ t) by simp, spl_esc 92 rfl, ih]
      simp
    · rw [if_neg h, show [c] ++ esc x ++ t = c :: (esc x ++ t) by simp, spl_plain c _ (by omega) (.inl (by omega)), ih]
      simp
theorem spl_join (l : List (List Int)) : ∀ (x : List Int) (done : List (List Int)), spl (joinE (x :: l)) done [] = done ++ x :: l := by
  induction l with
  | nil =>
    intro x done
    have := spl_escaped x [] done []
    simp only [List.append_nil, List.nil_append] at this
    rw [joinE, this, spl_nil]
  | cons y l ih =>
    intro x done
    rw [joinE, spl_escaped, spl_comma 44 rfl, ih]
    simp
/-- THE SECOND LAW: splitting gives the items back. -/
theorem law2 (l : List (List Int)) (h : l ≠ []) : spl (joinE l) [] [] = l := by
  cases l with
  | nil => exact absurd rfl h
  | cons x l => rw [spl_join]; rfl

end Go.Proofs.Qxb6603816a.Pl
