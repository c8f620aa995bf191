import Derived.Test.Qxb6621632aRows
import Derived.WalkKit
import Derived.ProofKit
import Derived.Below
import Derived.Deep.QuietTactic
import Derived.BigQuiet
import Derived.WalkLawsBesides
import Derived.WalkSpells
namespace Go.Proofs.Qxb6621632a
open Go.RowKit

theorem hid {p : Prop} (h : p) : Hid p := h

/-- a slice of strings -/
structure Ss (w : World) (a : Option Addr) (n : Nat) (ss : List ByteArray) : Prop where
  len : ss.length = n
  cells : 0 < n → ∃ b o, a = some ⟨b, o, none⟩ ∧ ∀ i, i < n → w.cell? ⟨b, o + i, none⟩ = some (.string (ss.getD i ByteArray.empty))
  small : ∀ s ∈ ss, s.size ≤ 9223372036854775807

theorem Ss.below {w w' : World} {a : Option Addr} {n : Nat} {zs : List ByteArray} (h : Ss w a n zs) (hb : Below w.heap.size w w') : Ss w' a n zs :=
  ⟨h.len, fun h0 => by
    obtain ⟨b, o, e, hc⟩ := h.cells h0
    exact ⟨b, o, e, fun i hi => by rw [hb.cell (World.block_lt_of_cell? w _ (hc i hi)), hc i hi]⟩, h.small⟩

theorem Ss.get {w : World} {a : Option Addr} {n : Nat} {ss : List ByteArray} (h : Ss w a n ss) (i : Nat) (hi : i < n) : (ss.getD i ByteArray.empty).size ≤ 9223372036854775807 := by
  have hl := h.len
  rw [List.getD, List.getElem?_eq_getElem (by omega)]
  exact h.small _ (List.getElem_mem _)

/-- it answers a bool -/
def IsB (e : Ending) : Prop := ∃ b, e = .returned (.bool b)
theorem isB (b : Bool) : IsB (.returned (.bool b)) := ⟨b, rfl⟩

set_option maxHeartbeats 400000 in
theorem size5_any (a : Option Addr) (n c : Nat) (x : Int) (ss : List ByteArray) (w : World) (hn : n ≤ 9223372036854775807) (hz : Ss w a n ss) :
    Calls Try.prog 13 #[.slice a n c, .int .i64 x] w fun e w' => IsB e ∧ w' = w := by
  have HZ := hid hz
  clear hz
  by_cases hbig : 1048576 < n
  · have e1 : (1048576 : Int) < (n : Int) := by omega
    go_enter Try.func13, Try.ntmps13
    go_wp2
    go_ret
    exact ⟨isB _, rfl⟩
  have e1 : ¬ (1048576 : Int) < (n : Int) := by omega
  go_enter Try.func13, Try.ntmps13
  go_wp2
  go_loop [5, 6] (fun t i => ∃ (k : Nat) (x : Int), k ≤ n ∧ i = .int .i64 k ∧ t = .int .i64 x) (fun _ i => n - (intOf i).toNat)
  case atStart => exact ⟨0, _, Nat.zero_le _, rfl, rfl⟩
  case round =>
    obtain ⟨k, y, hk, rfl, rfl⟩ := hrel
    by_cases hlt : k < n
    · obtain ⟨b, o, rfl, hc⟩ := HZ.out.cells (by omega)
      have g := hc k hlt
      have gs := HZ.out.get k hlt
      generalize ss.getD k ByteArray.empty = s at g gs
      clear hc
      go_wp2
      all_goals first
        | (go_ret; exact ⟨isB _, rfl⟩)
        | (go_round
           case rel => exact ⟨k + 1, _, by omega, by go_num, rfl⟩
           case measure => (simp [intOf]; omega))
    · go_wp2
      all_goals
        go_ret
        exact ⟨isB _, rfl⟩

set_option maxHeartbeats 400000 in
theorem size6_any (a : Option Addr) (n c : Nat) (x : Int) (q : ByteArray) (_hq : q.size ≤ 9223372036854775807) (ss : List ByteArray) (w : World) (hn : n ≤ 9223372036854775807) (hz : Ss w a n ss) :
    Calls Try.prog 15 #[.slice a n c, .int .i64 x, .string q] w fun e w' => IsB e ∧ w' = w := by
  have HZ := hid hz
  clear hz
  by_cases hbig : 1048576 < n
  · have e1 : (1048576 : Int) < (n : Int) := by omega
    go_enter Try.func15, Try.ntmps15
    go_wp2
    go_ret
    exact ⟨isB _, rfl⟩
  have e1 : ¬ (1048576 : Int) < (n : Int) := by omega
  go_enter Try.func15, Try.ntmps15
  go_wp2
  go_loop [7, 8] (fun t i => ∃ (k : Nat) (x : Int), k ≤ n ∧ i = .int .i64 k ∧ t = .int .i64 x) (fun _ i => n - (intOf i).toNat)
  case atStart => exact ⟨0, _, Nat.zero_le _, rfl, rfl⟩
  case round =>
    obtain ⟨k, y, hk, rfl, rfl⟩ := hrel
    by_cases hlt : k < n
    · obtain ⟨b, o, rfl, hc⟩ := HZ.out.cells (by omega)
      have g := hc k hlt
      have gs := HZ.out.get k hlt
      generalize ss.getD k ByteArray.empty = s at g gs
      clear hc
      go_wp2
      all_goals first
        | (go_ret; exact ⟨isB _, rfl⟩)
        | (go_round
           case rel => exact ⟨k + 1, _, by omega, by go_num, rfl⟩
           case measure => (simp [intOf]; omega))
    · go_wp2
      all_goals
        go_ret
        exact ⟨isB _, rfl⟩

set_option maxHeartbeats 400000 in
theorem fit_no (a : Option Addr) (n c : Nat) (q : ByteArray) (w : World) (h : 65536 < n) :
    Calls Try.prog 8 #[.slice a n c, .string q] w fun e w' => e = .returned (.bool false) ∧ w' = w := by
  have e1 : (65536 : Int) < (n : Int) := by omega
  go_enter Try.func8, Try.ntmps8
  go_wp2
  go_ret
  exact ⟨rfl, rfl⟩

set_option maxHeartbeats 400000 in
theorem fit_any (a : Option Addr) (n c : Nat) (q : ByteArray) (ss : List ByteArray) (w : World) (hn : n ≤ 65536) (hz : Ss w a n ss) :
    Calls Try.prog 8 #[.slice a n c, .string q] w fun e w' => IsB e ∧ w' = w := by
  have HZ := hid hz
  clear hz
  have e1 : ¬ (65536 : Int) < (n : Int) := by omega
  by_cases hq : 1048576 < q.size
  · have e2 : (1048576 : Int) < (q.size : Int) := by omega
    go_enter Try.func8, Try.ntmps8
    go_wp2
    go_ret
    exact ⟨isB _, rfl⟩
  have e2 : ¬ (1048576 : Int) < (q.size : Int) := by omega
  go_enter Try.func8, Try.ntmps8
  go_wp2
  go_loop [5, 6] (fun t i => ∃ (k : Nat) (x : Int), k ≤ n ∧ i = .int .i64 k ∧ t = .int .i64 x) (fun _ i => n - (intOf i).toNat)
  case atStart => exact ⟨0, _, Nat.zero_le _, rfl, rfl⟩
  case round =>
    obtain ⟨k, y, hk, rfl, rfl⟩ := hrel
    by_cases hlt : k < n
    · obtain ⟨b, o, rfl, hc⟩ := HZ.out.cells (by omega)
      have g := hc k hlt
      generalize ss.getD k ByteArray.empty = s at g
      clear hc
      go_wp2
      all_goals first
        | (go_ret; exact ⟨isB _, rfl⟩)
        | (go_round
           case rel => exact ⟨k + 1, _, by omega, by go_num, rfl⟩
           case measure => (simp [intOf]; omega))
    · go_wp2
      go_ret
      exact ⟨isB _, rfl⟩

/-- the three severities -/
def sevE (s : ByteArray) : Bool := s.toList == [101, 114, 114, 111, 114]
def sevW (s : ByteArray) : Bool := s.toList == [119, 97, 114, 110, 105, 110, 103]
def sevN (s : ByteArray) : Bool := s.toList == [110, 111, 116, 105, 99, 101]
def sevK (s : ByteArray) : Bool := sevE s || sevW s || sevN s

theorem e_not_w (s : ByteArray) (h : sevE s = true) : sevW s = false ∧ sevN s = false := by
  unfold sevE at h
  rw [beq_iff_eq] at h
  unfold sevW sevN
  rw [h]
  exact ⟨rfl, rfl⟩
theorem w_not_e (s : ByteArray) (h : sevW s = true) : sevE s = false ∧ sevN s = false := by
  unfold sevW at h
  rw [beq_iff_eq] at h
  unfold sevE sevN
  rw [h]
  exact ⟨rfl, rfl⟩
theorem n_not_e (s : ByteArray) (h : sevN s = true) : sevE s = false ∧ sevW s = false := by
  unfold sevN at h
  rw [beq_iff_eq] at h
  unfold sevE sevW
  rw [h]
  exact ⟨rfl, rfl⟩

/-- how many of each -/
def cE (l : List ByteArray) : Nat := l.countP sevE
def cW (l : List ByteArray) : Nat := l.countP sevW
def cN (l : List ByteArray) : Nat := l.countP sevN
def cK (l : List ByteArray) : Nat := l.countP sevK

theorem cE_snoc (l : List ByteArray) (s : ByteArray) : cE (l ++ [s]) = cE l + if sevE s = true then 1 else 0 := by simp [cE, List.countP_append, List.countP_cons]
theorem cW_snoc (l : List ByteArray) (s : ByteArray) : cW (l ++ [s]) = cW l + if sevW s = true then 1 else 0 := by simp [cW, List.countP_append, List.countP_cons]
theorem cN_snoc (l : List ByteArray) (s : ByteArray) : cN (l ++ [s]) = cN l + if sevN s = true then 1 else 0 := by simp [cN, List.countP_append, List.countP_cons]
theorem cK_snoc (l : List ByteArray) (s : ByteArray) : cK (l ++ [s]) = cK l + if sevK s = true then 1 else 0 := by simp [cK, List.countP_append, List.countP_cons]

theorem cK_sum (l : List ByteArray) : cE l + cW l + cN l = cK l := by
  induction l with
  | nil => rfl
  | cons s l ih =>
    have step : ∀ p : ByteArray → Bool, (s :: l).countP p = l.countP p + if p s = true then 1 else 0 := fun p => List.countP_cons ..
    unfold cE cW cN cK at ih ⊢
    rw [step, step, step, step]
    by_cases h1 : sevE s = true
    · obtain ⟨h2, h3⟩ := e_not_w s h1
      have h4 : sevK s = true := by unfold sevK; rw [h1]; rfl
      rw [if_pos h1, if_neg (by rw [h2]; simp), if_neg (by rw [h3]; simp), if_pos h4]
      omega
    · by_cases h2 : sevW s = true
      · have h3 := (w_not_e s h2).2
        have h4 : sevK s = true := by unfold sevK; rw [h2]; simp
        rw [if_neg h1, if_pos h2, if_neg (by rw [h3]; simp), if_pos h4]
        omega
      · by_cases h3 : sevN s = true
        · have h4 : sevK s = true := by unfold sevK; rw [h3]; simp
          rw [if_neg h1, if_neg h2, if_pos h3, if_pos h4]
          omega
        · have h4 : ¬ sevK s = true := by
            unfold sevK
            simp at h1 h2 h3
            rw [h1, h2, h3]
            simp
          rw [if_neg h1, if_neg h2, if_neg h3, if_neg h4]
          omega

theorem cE_app (l m : List ByteArray) : cE (l ++ m) = cE l + cE m := List.countP_append ..
theorem cW_app (l m : List ByteArray) : cW (l ++ m) = cW l + cW m := List.countP_append ..
theorem cN_app (l m : List ByteArray) : cN (l ++ m) = cN l + cN m := List.countP_append ..
theorem cE_le (l : List ByteArray) : cE l ≤ l.length := List.countP_le_length
theorem cW_le (l : List ByteArray) : cW l ≤ l.length := List.countP_le_length
theorem cN_le (l : List ByteArray) : cN l ≤ l.length := List.countP_le_length
theorem cK_le (l : List ByteArray) : cK l ≤ l.length := List.countP_le_length

theorem take_snoc (l : List ByteArray) (k : Nat) (h : k < l.length) : l.take (k + 1) = l.take k ++ [l.getD k ByteArray.empty] := by
  rw [List.take_succ_eq_append_getElem h, List.getD, List.getElem?_eq_getElem h]
  rfl

set_option maxHeartbeats 400000 in
theorem known_any (s : ByteArray) (w : World) :
    Calls Try.prog 14 #[.string s] w fun e w' => e = .returned (.bool (sevK s)) ∧ w' = w := by
  have hb : ∀ b : Bool, sevK s = b → Hid (sevK s = b) := fun _ h => h
  by_cases h1 : sevE s = true
  · have H := hb true (by unfold sevK; rw [h1]; rfl)
    unfold sevE at h1
    clear hb
    go_enter Try.func14, Try.ntmps14
    go_wp2
    go_ret
    exact ⟨by rw [H.out]; rfl, rfl⟩
  · have h1 : sevE s = false := by simpa using h1
    by_cases h2 : sevW s = true
    · have H := hb true (by unfold sevK; rw [h2]; simp)
      unfold sevE at h1
      unfold sevW at h2
      clear hb
      go_enter Try.func14, Try.ntmps14
      go_wp2
      go_ret
      exact ⟨by rw [H.out]; rfl, rfl⟩
    · have h2 : sevW s = false := by simpa using h2
      have H := hb (sevN s) (by unfold sevK; rw [h1, h2]; simp)
      unfold sevE at h1
      unfold sevW at h2
      unfold sevN at H
      clear hb
      go_enter Try.func14, Try.ntmps14
      go_wp2
      go_ret
      exact ⟨by rw [H.out]; rfl, rfl⟩
end Go.Proofs.Qxb6621632a
