import Derived.Lib.AtoiAllCases
namespace Go.Proofs.Qxb6619297aDoor.Pl
open Go

/-- an ASCII digit -/
def isDig (c : UInt8) : Bool := decide (48 ≤ c.toNat) && decide (c.toNat ≤ 57)

/-- the digits' value, 'acc' being what stands ahead -/
def dval (acc : Nat) (l : List UInt8) : Nat := l.foldl (fun a c => a * 10 + (c.toNat - 48)) acc

def clamp (n : Nat) : Nat := if n ≤ 1000000000 then n else 1000000000

/-- the same, clamped at every step -/
def cval (acc : Nat) (l : List UInt8) : Nat := l.foldl (fun a c => clamp (a * 10 + (c.toNat - 48))) acc

theorem dval_nil (n : Nat) : dval n [] = n := by unfold dval; rw [List.foldl_nil]
theorem dval_cons (n : Nat) (c : UInt8) (r : List UInt8) : dval n (c :: r) = dval (n * 10 + (c.toNat - 48)) r := by unfold dval; rw [List.foldl_cons]
theorem cval_nil (n : Nat) : cval n [] = n := by unfold cval; rw [List.foldl_nil]
theorem cval_cons (n : Nat) (c : UInt8) (r : List UInt8) : cval n (c :: r) = cval (clamp (n * 10 + (c.toNat - 48))) r := by unfold cval; rw [List.foldl_cons]

theorem clamp_le (n : Nat) : clamp n ≤ 1000000000 := by unfold clamp; split <;> omega
theorem clamp_small (n : Nat) (h : n ≤ 1000000000) : clamp n = n := by unfold clamp; rw [if_pos h]
theorem clamp_big (n : Nat) (h : 1000000000 < n) : clamp n = 1000000000 := by unfold clamp; rw [if_neg (by omega)]
theorem clamp_step (n d : Nat) : clamp (clamp n * 10 + d) = clamp (n * 10 + d) := by
  by_cases h : n ≤ 1000000000
  · rw [clamp_small n h]
  · rw [clamp_big n (by omega), clamp_big _ (by omega), clamp_big _ (by omega)]

theorem cval_dval (l : List UInt8) : ∀ (n : Nat), cval (clamp n) l = clamp (dval n l) := by
  induction l with
  | nil => intro n; rw [cval_nil, dval_nil]
  | cons c r ih => intro n; rw [cval_cons, dval_cons, clamp_step, ih]

theorem dval_mono (l : List UInt8) : ∀ (n : Nat), n ≤ dval n l := by
  induction l with
  | nil => intro n; rw [dval_nil]; exact Nat.le_refl _
  | cons c r ih =>
    intro n
    have := ih (n * 10 + (c.toNat - 48))
    rw [dval_cons]
    omega

theorem dval_snoc (l : List UInt8) (c : UInt8) : ∀ (n : Nat), dval n (l ++ [c]) = dval n l * 10 + (c.toNat - 48) := by
  induction l with
  | nil => intro n; rw [List.nil_append, dval_cons, dval_nil, dval_nil]
  | cons d r ih => intro n; rw [List.cons_append, dval_cons, dval_cons, ih]

theorem cval_snoc (l : List UInt8) (c : UInt8) : ∀ (n : Nat), cval n (l ++ [c]) = clamp (cval n l * 10 + (c.toNat - 48)) := by
  induction l with
  | nil => intro n; rw [List.nil_append, cval_cons, cval_nil, cval_nil]
  | cons d r ih => intro n; rw [List.cons_append, cval_cons, cval_cons, ih]

theorem parse_digits : ∀ (l : List UInt8) (n : Nat), l.all isDig = true → n < 18446744073709551616 →
    (dval n l < 18446744073709551616 ∧ Lib.parseUint10 n l = .ok (dval n l)) ∨ (18446744073709551616 ≤ dval n l ∧ Lib.parseUint10 n l = .range)
  | [], n, _, hn => .inl ⟨by rw [dval_nil]; exact hn, by rw [dval_nil, Lib.parseUint10]⟩
  | c :: r, n, h, hn => by
    simp only [List.all_cons, Bool.and_eq_true, isDig, decide_eq_true_eq] at h
    obtain ⟨⟨h1, h2⟩, h3⟩ := h
    have hm := dval_mono r (n * 10 + (c.toNat - 48))
    rw [dval_cons, Lib.parseUint10]
    rw [if_pos ⟨h1, h2⟩]
    by_cases ha : 1844674407370955162 ≤ n
    · rw [if_pos ha]
      exact .inr ⟨by omega, rfl⟩
    · rw [if_neg ha]
      by_cases hb : 18446744073709551616 ≤ n * 10 + (c.toNat - 48)
      · rw [if_pos hb]
        exact .inr ⟨by omega, rfl⟩
      · rw [if_neg hb]
        exact parse_digits r _ (by simpa [isDig] using h3) (by omega)

/-- strconv.Atoi of digits alone -/
theorem atoi_digits (l : List UInt8) (h0 : l ≠ []) (h : l.all isDig = true) :
    (Lib.atoiAll l = .ok (dval 0 l : Int) ∧ dval 0 l < 9223372036854775808) ∨ (Lib.atoiAll l = .range ∧ 9223372036854775808 ≤ dval 0 l) := by
  cases l with
  | nil => exact absurd rfl h0
  | cons c r =>
    have hc := h
    simp only [List.all_cons, Bool.and_eq_true, isDig, decide_eq_true_eq] at hc
    obtain ⟨⟨h1, h2⟩, _⟩ := hc
    rw [Lib.atoiAll_plain c r (by omega) (by omega)]
    have hp : Lib.parseMag (c :: r) = Lib.parseUint10 0 (c :: r) := by simp [Lib.parseMag]
    rw [hp]
    rcases parse_digits (c :: r) 0 h (by omega) with ⟨h3, h4⟩ | ⟨h3, h4⟩
    · rw [h4]
      by_cases h5 : 9223372036854775808 ≤ dval 0 (c :: r)
      · right
        refine ⟨?_, h5⟩
        show (if 9223372036854775808 ≤ dval 0 (c :: r) then _ else _) = _
        rw [if_pos h5]
      · left
        refine ⟨?_, by omega⟩
        show (if 9223372036854775808 ≤ dval 0 (c :: r) then _ else _) = _
        rw [if_neg h5]
    · rw [h4]
      exact .inr ⟨rfl, by omega⟩

end Go.Proofs.Qxb6619297aDoor.Pl
