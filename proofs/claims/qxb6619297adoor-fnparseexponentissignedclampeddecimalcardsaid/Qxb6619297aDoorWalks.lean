import Derived.Test.Qxb6619297aDoorRows
import Derived.Test.Qxb6619297aDoorShelf
import Derived.Test.Qxb6619297aDoorPlain
import Derived.WalkKit
import Derived.ProofKit
import Derived.Below
import Derived.WalkLawsBesides
import Derived.WalkSpells
namespace Go.Proofs.Qxb6619297aDoor
open Go.RowKit Pl

theorem hid {p : Prop} (h : p) : Hid p := h

/-- one or more ASCII digits, and nothing else -/
def Dg (s : ByteArray) : Prop := 0 < s.size ∧ ∀ (k : Nat) (h : k < s.size), 48 ≤ s[k].toNat ∧ s[k].toNat ≤ 57

set_option maxHeartbeats 400000 in
theorem digit_yes (x : Int) (w : World) (h1 : 48 ≤ x) (h2 : x ≤ 57) :
    Calls Tryd.prog 9 #[.int .u8 x] w fun e w' => e = .returned (.bool true) ∧ w' = w := by
  go_enter Tryd.func9, Tryd.ntmps9
  go_wp2
  go_ret
  exact ⟨by simp, rfl⟩

set_option maxHeartbeats 400000 in
theorem digit_no (x : Int) (w : World) (h : ¬ (48 ≤ x ∧ x ≤ 57)) :
    Calls Tryd.prog 9 #[.int .u8 x] w fun e w' => e = .returned (.bool false) ∧ w' = w := by
  by_cases h1 : 48 ≤ x
  · have h2 : ¬ x ≤ 57 := fun h2 => h ⟨h1, h2⟩
    clear h
    go_enter Tryd.func9, Tryd.ntmps9
    go_wp2
    go_ret
    exact ⟨by simp, rfl⟩
  · clear h
    go_enter Tryd.func9, Tryd.ntmps9
    go_wp2
    go_ret
    exact ⟨rfl, rfl⟩

theorem list_ne (s : ByteArray) (h : 0 < s.size) : s.toList.isEmpty = false := by
  rw [Lib.toList_data]
  have hl : s.data.toList.length = s.size := by rw [Array.length_toList]; rfl
  cases hc : s.data.toList with
  | nil => rw [hc] at hl; simp at hl; omega
  | cons c r => rfl

theorem list_e (s : ByteArray) (h : s.size = 0) : s.toList.isEmpty = true := by
  rw [Lib.toList_data]
  have hl : s.data.toList.length = s.size := by rw [Array.length_toList]; rfl
  cases hc : s.data.toList with
  | nil => rfl
  | cons c r => rw [hc] at hl; simp at hl; omega

set_option maxHeartbeats 400000 in
theorem digits_yes (s : ByteArray) (w : World) (hs : s.size ≤ 2000000) (h : Dg s) :
    Calls Tryd.prog 13 #[.string s] w fun e w' => e = .returned (.bool true) ∧ w' = w := by
  obtain ⟨h0, h⟩ := h
  have hne := list_ne s h0
  have H := hid h
  clear h
  go_enter Tryd.func13, Tryd.ntmps13
  go_wp2
  go_loop [3] (fun i => ∃ k : Nat, k ≤ s.size ∧ i = .int .i64 k) (fun i => s.size - (intOf i).toNat)
  case atStart => exact ⟨0, Nat.zero_le _, rfl⟩
  case round =>
    obtain ⟨k, hk, rfl⟩ := hrel
    by_cases hlt : k < s.size
    · obtain ⟨g1, g2⟩ := H.out k hlt
      have g3 : ¬ (s[k].toNat : Int) < 48 := by omega
      have g4 : ¬ (57 : Int) < (s[k].toNat : Int) := by omega
      clear g1 g2
      go_wp2
      go_round
      case rel => exact ⟨k + 1, by omega, by go_num⟩
      case measure => simp [intOf]; omega
    · go_wp2
      go_ret
      exact ⟨rfl, rfl⟩

set_option maxHeartbeats 400000 in
theorem digits_no (s : ByteArray) (w : World) (hs : s.size ≤ 2000000) (h : ¬ Dg s) :
    Calls Tryd.prog 13 #[.string s] w fun e w' => e = .returned (.bool false) ∧ w' = w := by
  by_cases h0 : s.size = 0
  · have hne := list_e s h0
    clear h h0
    go_enter Tryd.func13, Tryd.ntmps13
    go_wp2
    go_ret
    exact ⟨rfl, rfl⟩
  have hp : 0 < s.size := by omega
  have hne := list_ne s hp
  have HN := hid h
  clear h h0
  go_enter Tryd.func13, Tryd.ntmps13
  go_wp2
  go_loop [3] (fun i => ∃ k : Nat, k ≤ s.size ∧ i = .int .i64 k ∧ Hid (∀ (j : Nat) (h : j < s.size), j < k → 48 ≤ s[j].toNat ∧ s[j].toNat ≤ 57)) (fun i => s.size - (intOf i).toNat)
  case atStart => exact ⟨0, Nat.zero_le _, rfl, fun j _ h => absurd h (Nat.not_lt_zero _)⟩
  case round =>
    obtain ⟨k, hk, rfl, HR⟩ := hrel
    by_cases hlt : k < s.size
    · by_cases g1 : (s[k].toNat : Int) < 48
      · go_wp2
        go_ret
        exact ⟨rfl, rfl⟩
      · by_cases g2 : (57 : Int) < (s[k].toNat : Int)
        · go_wp2
          go_ret
          exact ⟨rfl, rfl⟩
        · have HE := hid (And.intro g1 g2)
          go_wp2
          go_round
          case rel =>
            refine ⟨k + 1, by omega, by go_num, fun j hj hjk => ?_⟩
            by_cases hjk' : j < k
            · exact HR.out j hj hjk'
            · obtain rfl : j = k := by omega
              have := HE.out
              omega
          case measure => simp [intOf]; omega
    · exact absurd ⟨hp, fun j hj => HR.out j hj (by omega)⟩ HN.out

theorem take_snoc (s : ByteArray) (k : Nat) (h : k < s.size) : s.data.toList.take (k + 1) = s.data.toList.take k ++ [s[k]] := by
  rw [List.take_succ_eq_append_getElem (by simpa using h)]; rfl

theorem cval_le (l : List UInt8) : ∀ n, n ≤ 1000000000 → cval n l ≤ 1000000000 := by
  induction l with
  | nil => intro n h; rw [cval_nil]; exact h
  | cons c r ih => intro n _; rw [cval_cons]; exact ih _ (clamp_le _)

set_option maxHeartbeats 400000 in
theorem dec_yes (s : ByteArray) (w : World) (hs : s.size ≤ 2000000) (h : Dg s) :
    Calls Tryd.prog 7 #[.string s] w fun e w' => e = .returned (.tuple #[.int .i64 (cval 0 s.data.toList : Int), .bool true]) ∧ w' = w := by
  obtain ⟨h0, h⟩ := h
  have H := hid h
  clear h
  have e0 : ((s.size : Int) == 0) = false := beq_eq_false_iff_ne.2 (by omega)
  go_enter Tryd.func7, Tryd.ntmps7
  go_wp2
  go_loop [4, 5] (fun m i => ∃ k v : Nat, k ≤ s.size ∧ i = .int .i64 k ∧ v ≤ 1000000000 ∧ m = .int .i64 v ∧ Hid (v = cval 0 (s.data.toList.take k))) (fun _ i => s.size - (intOf i).toNat)
  case atStart => exact ⟨0, 0, Nat.zero_le _, rfl, Nat.zero_le _, rfl, hid (by rw [List.take_zero, cval_nil])⟩
  case round =>
    obtain ⟨k, v, hk, rfl, hv, rfl, HV⟩ := hrel
    by_cases hlt : k < s.size
    · obtain ⟨g1, g2⟩ := H.out k hlt
      have HE : Hid (cval 0 (s.data.toList.take (k + 1)) = clamp (v * 10 + (s[k].toNat - 48))) := hid (by rw [take_snoc s k hlt, cval_snoc, ← HV.out])
      have g3 : 48 ≤ (s[k].toNat : Int) := by omega
      have g4 : (s[k].toNat : Int) ≤ 57 := by omega
      by_cases hb : (1000000000 : Int) < (v : Int) * 10 + ((s[k].toNat : Int) - 48)
      · have HB := hid hb
        go_wp2_with (go_at_call 9; refine (digit_yes _ _ g3 g4).mono ?_; rintro e w' ⟨rfl, rfl⟩)
        go_round
        case rel => exact ⟨k + 1, 1000000000, by omega, by go_num, by omega, rfl, hid (by have := HB.out; rw [HE.out, clamp_big _ (by omega)])⟩
        case measure => simp [intOf]; omega
      · go_wp2_with (go_at_call 9; refine (digit_yes _ _ g3 g4).mono ?_; rintro e w' ⟨rfl, rfl⟩)
        go_round
        case rel => exact ⟨k + 1, v * 10 + (s[k].toNat - 48), by omega, by go_num, by omega, by go_num, hid (by rw [HE.out, clamp_small _ (by omega)])⟩
        case measure => simp [intOf]; omega
    · go_wp2
      go_ret2
      refine ⟨?_, rfl⟩
      have hv := HV.out
      rw [List.take_of_length_le (by rw [Array.length_toList]; show s.size ≤ k; omega)] at hv
      rw [← hv]
      rfl

set_option maxHeartbeats 400000 in
theorem dec_no (s : ByteArray) (w : World) (hs : s.size ≤ 2000000) (h : ¬ Dg s) :
    Calls Tryd.prog 7 #[.string s] w fun e w' => e = .returned (.tuple #[.int .i64 0, .bool false]) ∧ w' = w := by
  by_cases h0 : s.size = 0
  · have e0 : ((s.size : Int) == 0) = true := beq_iff_eq.2 (by omega)
    clear h h0
    go_enter Tryd.func7, Tryd.ntmps7
    go_wp2
    go_ret2
    exact ⟨rfl, rfl⟩
  have hp : 0 < s.size := by omega
  have e0 : ((s.size : Int) == 0) = false := beq_eq_false_iff_ne.2 (by omega)
  have HN := hid h
  clear h h0
  go_enter Tryd.func7, Tryd.ntmps7
  go_wp2
  go_loop [4, 5] (fun m i => ∃ k v : Nat, k ≤ s.size ∧ i = .int .i64 k ∧ v ≤ 1000000000 ∧ m = .int .i64 v ∧ Hid (∀ (j : Nat) (h : j < s.size), j < k → 48 ≤ s[j].toNat ∧ s[j].toNat ≤ 57)) (fun _ i => s.size - (intOf i).toNat)
  case atStart => exact ⟨0, 0, Nat.zero_le _, rfl, Nat.zero_le _, rfl, fun j _ h => absurd h (Nat.not_lt_zero _)⟩
  case round =>
    obtain ⟨k, v, hk, rfl, hv, rfl, HR⟩ := hrel
    by_cases hlt : k < s.size
    · by_cases hd : 48 ≤ (s[k].toNat : Int) ∧ (s[k].toNat : Int) ≤ 57
      · obtain ⟨g3, g4⟩ := hd
        have HE := hid (And.intro g3 g4)
        by_cases hb : (1000000000 : Int) < (v : Int) * 10 + ((s[k].toNat : Int) - 48)
        all_goals
          go_wp2_with (go_at_call 9; refine (digit_yes _ _ g3 g4).mono ?_; rintro e w' ⟨rfl, rfl⟩)
          have hn : ∀ (j : Nat) (h : j < s.size), j < k + 1 → 48 ≤ s[j].toNat ∧ s[j].toNat ≤ 57 := by
            intro j hj hjk
            by_cases hjk' : j < k
            · exact HR.out j hj hjk'
            · obtain rfl : j = k := by omega
              have := HE.out
              omega
          go_round
          case rel => first | exact ⟨k + 1, 1000000000, by omega, by go_num, by omega, rfl, hn⟩ | exact ⟨k + 1, v * 10 + (s[k].toNat - 48), by omega, by go_num, by omega, by go_num, hn⟩
          case measure => simp [intOf]; omega
      · go_wp2_with (go_at_call 9; refine (digit_no _ _ hd).mono ?_; rintro e w' ⟨rfl, rfl⟩)
        go_ret2
        exact ⟨rfl, rfl⟩
    · exact absurd ⟨hp, fun j hj => HR.out j hj (by omega)⟩ HN.out
end Go.Proofs.Qxb6619297aDoor
