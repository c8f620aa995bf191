namespace Go.Proofs.Qxb6619591a.Pl

/-- byte i of s, 0 behind its end -/
def bt (s : List UInt8) (i : Nat) : Nat := (s.getD i 0).toNat
/-- an opener stands at i -/
def opn (s : List UInt8) (i : Nat) : Bool := decide (bt s i = 38) && decide (bt s (i + 1) = 123)
/-- it is escaped -/
def esc (s : List UInt8) (from_ i : Nat) : Bool := decide (from_ < i) && decide (bt s (i - 1) = 92)
/-- the escapes among the openers, as the backslash's places -/
def fil (s : List UInt8) (from_ : Nat) (l : List Nat) : List Nat := (l.filter (esc s from_)).map (· - 1)

/-- one place, read from behind: closers that wait, openers that none closes -/
def bstep (s : List UInt8) (i : Nat) (st : Nat × List Nat) : Nat × List Nat :=
  if bt s i = 125 then (st.1 + 1, st.2)
  else if opn s i = false then st
  else if 0 < st.1 then (st.1 - 1, st.2)
  else (st.1, st.2 ++ [i])

/-- the last k places read from behind -/
def bst (s : List UInt8) : Nat → Nat × List Nat
  | 0 => (0, [])
  | k + 1 => bstep s (s.length - 1 - k) (bst s k)

/-- one place, read forward: the openers still open, the last first -/
def fstep (s : List UInt8) (i : Nat) (st : List Nat) : List Nat :=
  if bt s i = 125 then st.tail
  else if opn s i = false then st
  else i :: st

/-- k places from 'from_' on read forward -/
def fst (s : List UInt8) (from_ : Nat) : Nat → List Nat
  | 0 => []
  | k + 1 => fstep s (from_ + k) (fst s from_ k)

theorem bst_le (s : List UInt8) (k : Nat) : (bst s k).1 ≤ k := by
  induction k with
  | zero => exact Nat.le_refl _
  | succ k ih =>
    show (bstep s (s.length - 1 - k) (bst s k)).1 ≤ k + 1
    unfold bstep
    split
    · show (bst s k).1 + 1 ≤ k + 1; omega
    · split
      · omega
      · split
        · show (bst s k).1 - 1 ≤ k + 1; omega
        · show (bst s k).1 ≤ k + 1; omega

theorem bst_len (s : List UInt8) (k : Nat) : (bst s k).2.length ≤ k := by
  induction k with
  | zero => exact Nat.le_refl _
  | succ k ih =>
    show (bstep s (s.length - 1 - k) (bst s k)).2.length ≤ k + 1
    unfold bstep
    split
    · show (bst s k).2.length ≤ k + 1; omega
    · split
      · omega
      · split
        · show (bst s k).2.length ≤ k + 1; omega
        · show ((bst s k).2 ++ [_]).length ≤ k + 1; rw [List.length_append]; simp; omega

theorem fst_len (s : List UInt8) (f k : Nat) : (fst s f k).length ≤ k := by
  induction k with
  | zero => exact Nat.le_refl _
  | succ k ih =>
    show (fstep s (f + k) (fst s f k)).length ≤ k + 1
    unfold fstep
    split
    · rw [List.length_tail]; omega
    · split
      · omega
      · rw [List.length_cons]; omega

theorem fil_len (s : List UInt8) (f : Nat) (l : List Nat) : (fil s f l).length ≤ l.length := by
  unfold fil
  rw [List.length_map]
  exact List.length_filter_le _ _

theorem fil_snoc (s : List UInt8) (f : Nat) (l : List Nat) (i : Nat) : fil s f (l ++ [i]) = if esc s f i = true then fil s f l ++ [i - 1] else fil s f l := by
  unfold fil
  rw [List.filter_append]
  by_cases h : esc s f i = true
  · rw [if_pos h]; simp [h]
  · rw [if_neg h]; simp [h]

/-- THE LAW OF THE TWO READINGS: what the forward reading leaves open of the first places, less what waits behind, with what the reading from behind leaves open -/
theorem both (s : List UInt8) (f : Nat) : ∀ k, f + k ≤ s.length →
    (bst s (s.length - (f + k))).2 ++ (fst s f k).drop (bst s (s.length - (f + k))).1 = (bst s (s.length - f)).2 := by
  intro k
  induction k with
  | zero =>
    intro _
    show (bst s (s.length - (f + 0))).2 ++ List.drop _ [] = _
    rw [List.drop_nil, List.append_nil, Nat.add_zero]
  | succ k ih =>
    intro hk
    rw [← ih (by omega)]
    have e : s.length - (f + k) = (s.length - (f + (k + 1))) + 1 := by omega
    rw [e]
    show _ = (bstep s (s.length - 1 - (s.length - (f + (k + 1)))) (bst s (s.length - (f + (k + 1))))).2 ++ (fst s f k).drop (bstep s (s.length - 1 - (s.length - (f + (k + 1)))) (bst s (s.length - (f + (k + 1))))).1
    rw [show s.length - 1 - (s.length - (f + (k + 1))) = f + k from by omega]
    show (bst s (s.length - (f + (k + 1)))).2 ++ (fstep s (f + k) (fst s f k)).drop (bst s (s.length - (f + (k + 1)))).1 = _
    generalize bst s (s.length - (f + (k + 1))) = st
    generalize fst s f k = S
    obtain ⟨W, U⟩ := st
    unfold bstep fstep
    by_cases h1 : bt s (f + k) = 125
    · rw [if_pos h1, if_pos h1]
      show U ++ S.tail.drop W = U ++ S.drop (W + 1)
      rw [List.drop_tail]
    · rw [if_neg h1, if_neg h1]
      by_cases h2 : opn s (f + k) = false
      · rw [if_pos h2, if_pos h2]
      · rw [if_neg h2, if_neg h2]
        by_cases h3 : 0 < W
        · rw [if_pos h3]
          show U ++ ((f + k) :: S).drop W = U ++ S.drop (W - 1)
          obtain ⟨V, rfl⟩ : ∃ V, W = V + 1 := ⟨W - 1, by omega⟩
          rw [List.drop_succ_cons, Nat.add_sub_cancel]
        · rw [if_neg h3]
          obtain rfl : W = 0 := by omega
          show U ++ ((f + k) :: S).drop 0 = (U ++ [f + k]) ++ S.drop 0
          simp

/-- .. so what both leave open is one -/
theorem model_law (s : List UInt8) (f : Nat) : fst s f (s.length - f) = (bst s (s.length - f)).2 := by
  by_cases h : f ≤ s.length
  · have := both s f (s.length - f) (by omega)
    rw [show s.length - (f + (s.length - f)) = 0 from by omega] at this
    rw [← this]
    show _ = [] ++ (fst s f (s.length - f)).drop 0
    simp
  · rw [show s.length - f = 0 from by omega]
    rfl

theorem bst_lt (s : List UInt8) (k : Nat) (hk : k ≤ s.length) : ∀ j ∈ (bst s k).2, j < s.length := by
  induction k with
  | zero => intro j hj; cases hj
  | succ k ih =>
    intro j hj
    have ih := ih (by omega)
    change j ∈ (bstep s (s.length - 1 - k) (bst s k)).2 at hj
    unfold bstep at hj
    split at hj
    · exact ih j hj
    · split at hj
      · exact ih j hj
      · split at hj
        · exact ih j hj
        · rcases List.mem_append.1 hj with h | h
          · exact ih j h
          · rw [List.mem_singleton.1 h]; omega

section
variable (p s : List UInt8)

theorem bt_mid (j : Nat) (hj : j < s.length) : bt (p ++ s ++ [92, 38, 123]) (p.length + j) = bt s j := by
  unfold bt
  rw [List.append_assoc]
  simp only [List.getD, List.getElem?_append_right (Nat.le_add_right _ _), Nat.add_sub_cancel_left, List.getElem?_append_left hj]

theorem bt_end (j : Nat) : bt (p ++ s ++ [92, 38, 123]) (p.length + s.length + j) = bt [92, 38, 123] j := by
  unfold bt
  have e : p.length + s.length + j - (p ++ s).length = j := by simp
  simp only [List.getD]
  rw [List.getElem?_append_right (by simp), e]

theorem bt_out (j : Nat) (hj : s.length ≤ j) : bt s j = 0 := by
  unfold bt
  simp [List.getD, List.getElem?_eq_none hj]

theorem opn_mid (j : Nat) (hj : j < s.length) : opn (p ++ s ++ [92, 38, 123]) (p.length + j) = opn s j := by
  unfold opn
  rw [bt_mid p s j hj]
  by_cases h : j + 1 < s.length
  · rw [show p.length + j + 1 = p.length + (j + 1) from by omega, bt_mid p s (j + 1) h]
  · rw [show p.length + j + 1 = p.length + s.length + 0 from by omega, bt_end p s 0, bt_out s (j + 1) (by omega)]
    rfl

theorem bst_three : bst (p ++ s ++ [92, 38, 123]) 3 = (0, [p.length + s.length + 1]) := by
  have hl : (p ++ s ++ [92, 38, 123]).length = p.length + s.length + 3 := by simp; omega
  show bstep _ (_ - 1 - 2) (bstep _ (_ - 1 - 1) (bstep _ (_ - 1 - 0) (0, []))) = _
  rw [hl, show p.length + s.length + 3 - 1 - 2 = p.length + s.length + 0 from by omega, show p.length + s.length + 3 - 1 - 1 = p.length + s.length + 1 from by omega, show p.length + s.length + 3 - 1 - 0 = p.length + s.length + 2 from by omega]
  have e0 := bt_end p s 0
  have e1 := bt_end p s 1
  have e2 := bt_end p s 2
  have c0 : bt [92, 38, 123] 0 = 92 := rfl
  have c1 : bt [92, 38, 123] 1 = 38 := rfl
  have c2 : bt [92, 38, 123] 2 = 123 := rfl
  rw [c0] at e0
  rw [c1] at e1
  rw [c2] at e2
  have o0 : opn (p ++ s ++ [92, 38, 123]) (p.length + s.length + 0) = false := by unfold opn; rw [e0]; rfl
  have o1 : opn (p ++ s ++ [92, 38, 123]) (p.length + s.length + 1) = true := by unfold opn; rw [e1, e2]; rfl
  have o2 : opn (p ++ s ++ [92, 38, 123]) (p.length + s.length + 2) = false := by unfold opn; rw [e2]; rfl
  have s2 : bstep (p ++ s ++ [92, 38, 123]) (p.length + s.length + 2) (0, []) = (0, []) := by
    unfold bstep; rw [if_neg (by rw [e2]; omega), if_pos o2]
  have s1 : bstep (p ++ s ++ [92, 38, 123]) (p.length + s.length + 1) (0, []) = (0, [p.length + s.length + 1]) := by
    unfold bstep; rw [if_neg (by rw [e1]; omega), if_neg (by rw [o1]; simp), if_neg (by simp)]; rfl
  have s0 : bstep (p ++ s ++ [92, 38, 123]) (p.length + s.length + 0) (0, [p.length + s.length + 1]) = (0, [p.length + s.length + 1]) := by
    unfold bstep; rw [if_neg (by rw [e0]; omega), if_pos o0]
  rw [s2, s1, s0]

theorem bst_shift (k : Nat) (hk : k ≤ s.length) : bst (p ++ s ++ [92, 38, 123]) (k + 3) = ((bst s k).1, (p.length + s.length + 1) :: (bst s k).2.map (p.length + ·)) := by
  induction k with
  | zero => exact bst_three p s
  | succ k ih =>
    have ih := ih (by omega)
    have hl : (p ++ s ++ [92, 38, 123]).length = p.length + s.length + 3 := by simp; omega
    show bstep _ (_ - 1 - (k + 3)) (bst _ (k + 3)) = _
    rw [ih, hl, show p.length + s.length + 3 - 1 - (k + 3) = p.length + (s.length - 1 - k) from by omega]
    show _ = ((bstep s (s.length - 1 - k) (bst s k)).1, (p.length + s.length + 1) :: (bstep s (s.length - 1 - k) (bst s k)).2.map (p.length + ·))
    have hj : s.length - 1 - k < s.length := by omega
    unfold bstep
    rw [bt_mid p s _ hj, opn_mid p s _ hj]
    by_cases h1 : bt s (s.length - 1 - k) = 125
    · rw [if_pos h1, if_pos h1]
    · rw [if_neg h1, if_neg h1]
      by_cases h2 : opn s (s.length - 1 - k) = false
      · rw [if_pos h2, if_pos h2]
      · rw [if_neg h2, if_neg h2]
        by_cases h3 : 0 < (bst s k).1
        · rw [if_pos h3, if_pos h3]
        · rw [if_neg h3, if_neg h3]
          simp

theorem esc_mid (g j : Nat) (hj : j < s.length) : esc (p ++ s ++ [92, 38, 123]) (p.length + g) (p.length + j) = esc s g j := by
  unfold esc
  by_cases h : g < j
  · rw [show p.length + j - 1 = p.length + (j - 1) from by omega, bt_mid p s (j - 1) (by omega)]
    simp
  · rw [decide_eq_false (by omega : ¬ p.length + g < p.length + j), decide_eq_false h]
    rfl

theorem fil_mid (g : Nat) (l : List Nat) (hl : ∀ j ∈ l, j < s.length) : fil (p ++ s ++ [92, 38, 123]) (p.length + g) (l.map (p.length + ·)) = (fil s g l).map (p.length + ·) := by
  induction l with
  | nil => rfl
  | cons j l ih =>
    have ih := ih (fun i hi => hl i (List.mem_cons_of_mem _ hi))
    have hj := hl j List.mem_cons_self
    unfold fil at ih ⊢
    rw [List.map_cons, List.filter_cons, List.filter_cons, esc_mid p s g j hj]
    by_cases h : esc s g j = true
    · rw [if_pos h, if_pos h, List.map_cons, List.map_cons, List.map_cons, ih]
      have h0 : g < j := by
        unfold esc at h
        simp at h
        exact h.1
      rw [show p.length + j - 1 = p.length + (j - 1) from by omega]
    · rw [if_neg h, if_neg h, ih]

/-- THE LAW OF THE SHIFT -/
theorem shift_law (g : Nat) (hg : g ≤ s.length) :
    fil (p ++ s ++ [92, 38, 123]) (p.length + g) (bst (p ++ s ++ [92, 38, 123]) ((p ++ s ++ [92, 38, 123]).length - (p.length + g))).2 =
      (p.length + s.length) :: (fil s g (bst s (s.length - g)).2).map (p.length + ·) := by
  have hl : (p ++ s ++ [92, 38, 123]).length - (p.length + g) = (s.length - g) + 3 := by simp; omega
  rw [hl, bst_shift p s (s.length - g) (by omega)]
  have he : esc (p ++ s ++ [92, 38, 123]) (p.length + g) (p.length + s.length + 1) = true := by
    unfold esc
    rw [show p.length + s.length + 1 - 1 = p.length + s.length + 0 from by omega, bt_end p s 0]
    simp
    exact ⟨by omega, rfl⟩
  have hm := fil_mid p s g (bst s (s.length - g)).2 (bst_lt s _ (by omega))
  rw [← hm]
  unfold fil
  rw [List.filter_cons, if_pos he, List.map_cons]
  rfl

/-- a start behind the end: nothing is read -/
theorem from_cap (f : Nat) : fil s f (bst s (s.length - f)).2 = fil s (if s.length < f then s.length else f) (bst s (s.length - (if s.length < f then s.length else f))).2 := by
  by_cases h : s.length < f
  · rw [if_pos h, show s.length - f = 0 from by omega, Nat.sub_self]
    rfl
  · rw [if_neg h]
end
end Go.Proofs.Qxb6619591a.Pl
