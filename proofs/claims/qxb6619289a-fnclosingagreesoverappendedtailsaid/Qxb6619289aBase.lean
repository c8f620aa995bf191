import Derived.Test.Qxb6619289aRows
import Derived.WalkKit
import Derived.ProofKit
import Derived.Below
import Derived.Deep.QuietTactic
import Derived.BigQuiet
import Derived.WalkLawsBesides
import Derived.WalkSpells
namespace Go.Proofs.Qxb6619289a
open Go.RowKit

/-- a slice of bytes: its numbers -/
structure Bs (w : World) (a : Option Addr) (n : Nat) (zs : List Int) : Prop where
  len : zs.length = n
  rng : ∀ z ∈ zs, 0 ≤ z ∧ z ≤ 255
  cells : 0 < n → ∃ b o, a = some ⟨b, o, none⟩ ∧ ∀ i, i < n → w.cell? ⟨b, o + i, none⟩ = some (.int .u8 (zs.getD i 0))

/-- 's' holds 'p' at 'k' -/
def MA (zs : List Int) (k : Nat) (p : ByteArray) : Prop :=
  k + p.size ≤ zs.length ∧ ∀ (j : Nat) (hj : j < p.size), zs.getD (k + j) 0 = (p[j].toNat : Int)

theorem Bs.drewN {w : World} {a : Option Addr} {n : Nat} {zs : List Int} (h : Bs w a n zs) (q : Nat) : Bs (w.drewN q) a n zs :=
  ⟨h.len, h.rng, fun h0 => by obtain ⟨b, o, e, hc⟩ := h.cells h0; exact ⟨b, o, e, fun i hi => by simpa using hc i hi⟩⟩

set_option maxHeartbeats 400000 in
theorem match_yes (a : Option Addr) (n c k0 : Nat) (p : ByteArray) (zs : List Int) (w : World) (hb : Bs w a n zs) (hn : n ≤ 2000000) (hp : p.size ≤ 16) (hp0 : 0 < p.size) (h : MA zs k0 p) :
    Calls Try.prog 6 #[.slice a n c, .int .i64 k0, .string p] w fun e w' => e = .returned (.bool true) ∧ ∃ q, w' = w.drewN q := by
  obtain ⟨h1, h2⟩ := h
  have hl := hb.len
  obtain ⟨b, o, rfl, hc⟩ := hb.cells (by omega)
  clear hb
  have e0 : decide ((k0 : Int) < 0) = false := by simp
  have e1 : ¬ ((n : Int) < (k0 : Int)) := by omega
  have e2 : ¬ ((n : Int) - (k0 : Int) < (p.size : Int)) := by omega
  go_enter Try.func6, Try.ntmps6
  go_wp2
  go_loopw [7] (fun i wr => ∃ k : Nat, ∃ q : Nat, k ≤ p.size ∧ i = .int .i64 k ∧ wr = w.drewN q) (fun i _ => p.size - (intOf i).toNat)
  case atStart => exact ⟨0, 0, Nat.zero_le _, rfl, rfl⟩
  case round =>
    obtain ⟨k, q, hk, rfl, rfl⟩ := hrel
    by_cases hlt : k < p.size
    · have g := hc (k0 + k) (by omega)
      rw [h2 k hlt] at g
      clear hc h2
      go_wp2
      go_quiet (fail)
      go_wp2
      go_roundw
      case rel => exact ⟨k + 1, q + nq, by omega, by go_num, rfl⟩
      case measure => simp [intOf]; omega
    · go_wp2
      go_ret
      exact ⟨rfl, q, rfl⟩

set_option maxHeartbeats 400000 in
theorem match_no (a : Option Addr) (n c k0 : Nat) (p : ByteArray) (zs : List Int) (w : World) (hb : Bs w a n zs) (hn : n ≤ 2000000) (hp : p.size ≤ 16) (hp0 : 0 < p.size) (hk0 : k0 ≤ n) (h : ¬ MA zs k0 p) :
    Calls Try.prog 6 #[.slice a n c, .int .i64 k0, .string p] w fun e w' => e = .returned (.bool false) ∧ ∃ q, w' = w.drewN q := by
  have hl := hb.len
  have e0 : decide ((k0 : Int) < 0) = false := by simp
  have e1 : ¬ ((n : Int) < (k0 : Int)) := by omega
  by_cases hs : n < k0 + p.size
  · have e2 : (n : Int) - (k0 : Int) < (p.size : Int) := by omega
    clear h hb
    go_enter Try.func6, Try.ntmps6
    go_wp2
    go_ret
    exact ⟨rfl, 0, rfl⟩
  have e2 : ¬ ((n : Int) - (k0 : Int) < (p.size : Int)) := by omega
  obtain ⟨b, o, rfl, hc⟩ := hb.cells (by omega)
  clear hb
  have HN : Hid (¬ MA zs k0 p) := h
  clear h
  go_enter Try.func6, Try.ntmps6
  go_wp2
  go_loopw [7] (fun i wr => ∃ k : Nat, ∃ q : Nat, k ≤ p.size ∧ i = .int .i64 k ∧ wr = w.drewN q ∧ Hid (∀ (j : Nat) (hj : j < p.size), j < k → zs.getD (k0 + j) 0 = (p[j].toNat : Int))) (fun i _ => p.size - (intOf i).toNat)
  case atStart => exact ⟨0, 0, Nat.zero_le _, rfl, rfl, fun j _ h => absurd h (Nat.not_lt_zero _)⟩
  case round =>
    obtain ⟨k, q, hk, rfl, rfl, HR⟩ := hrel
    by_cases hlt : k < p.size
    · have g := hc (k0 + k) (by omega)
      clear hc
      by_cases heq : zs.getD (k0 + k) 0 = (p[k].toNat : Int)
      · rw [heq] at g
        have HE : Hid (zs.getD (k0 + k) 0 = (p[k].toNat : Int)) := heq
        clear heq
        go_wp2
        go_quiet (fail)
        go_wp2
        go_roundw
        case rel =>
          refine ⟨k + 1, q + nq, by omega, by go_num, rfl, fun j hj hjk => ?_⟩
          by_cases hjk' : j < k
          · exact HR.out j hj hjk'
          · obtain rfl : j = k := by omega
            exact HE.out
        case measure => simp [intOf]; omega
      · generalize zs.getD (k0 + k) 0 = z at g heq
        have hne : (z != (p[k].toNat : Int)) = true := by simpa using heq
        clear heq
        go_wp2
        go_quiet (fail)
        go_wp2
        go_ret
        exact ⟨rfl, q + nq, by simp⟩
    · exact absurd ⟨by omega, fun j hj => HR.out j hj (by omega)⟩ HN.out

theorem getD_brace (zs : List Int) (k0 i : Nat) : (123 :: zs.drop k0).getD (i + 1) 0 = zs.getD (k0 + i) 0 := by
  simp [List.getD, List.getElem?_drop]

set_option maxHeartbeats 400000 in
theorem brace_yes (a1 a2 : Option Addr) (m c1 n c2 k0 : Nat) (zs : List Int) (w : World) (h1 : Bs w a1 m (123 :: zs.drop k0)) (h2 : Bs w a2 n zs) (hn : n ≤ 2000000) (hk : k0 ≤ n) :
    Calls Try.prog 8 #[.slice a1 m c1, .slice a2 n c2, .int .i64 k0] w fun e w' => e = .returned (.bool true) ∧ ∃ q, w' = w.drewN q := by
  have l1 := h1.len
  have l2 := h2.len
  simp at l1
  have hm : m = 1 + n - k0 := by omega
  obtain ⟨b, o, rfl, hc⟩ := h1.cells (by omega)
  clear h1 l1
  have e0 : decide ((k0 : Int) < 0) = false := by simp
  have e1 : ¬ ((n : Int) < (k0 : Int)) := by omega
  have e2 : ((m : Int) != 1 + (n : Int) - (k0 : Int)) = false := by simp; omega
  have g0 := hc 0 (by omega)
  simp at g0
  have hm' : m ≤ 2000001 := by omega
  have hm0 : 0 < m := by omega
  have HM : Hid (m = 1 + n - k0) := hm
  clear hm
  go_enter Try.func8, Try.ntmps8
  go_wp2

  go_loopw [7] (fun i wr => ∃ k : Nat, ∃ q : Nat, k + 1 ≤ m ∧ i = .int .i64 ((k + 1 : Nat) : Int) ∧ wr = w.drewN q) (fun i _ => m - (intOf i).toNat)
  case atStart => exact ⟨0, 0, by have := HM.out; omega, rfl, rfl⟩
  case round =>
    obtain ⟨k, q, hk, rfl, rfl⟩ := hrel
    by_cases hlt : k + 1 < m
    · have g := hc (k + 1) hlt
      have hkn : k0 + k < n := by have := HM.out; omega
      obtain ⟨b2, o2, rfl, hc2⟩ := h2.cells (by omega)
      have g2 := hc2 (k0 + k) hkn
      rw [getD_brace] at g
      generalize zs.getD (k0 + k) 0 = z at g g2
      clear hc hc2 h2
      go_wp2
      go_quiet (fail)
      go_wp2
      go_roundw
      case rel => exact ⟨k + 1, q + nq, by omega, by go_num, rfl⟩
      case measure => simp [intOf]; omega
    · go_wp2
      go_ret
      exact ⟨rfl, q, rfl⟩

theorem getD_app_l (xs ys : List Int) (i : Nat) (h : i < xs.length) : (xs ++ ys).getD i 0 = xs.getD i 0 := by
  simp [List.getD, List.getElem?_append_left h]
theorem getD_app_r (xs ys : List Int) (i : Nat) : (xs ++ ys).getD (xs.length + i) 0 = ys.getD i 0 := by
  simp [List.getD, List.getElem?_append_right]

set_option maxHeartbeats 400000 in
theorem concat_yes (a1 a2 a3 : Option Addr) (m c1 n c2 k c3 : Nat) (xs ys : List Int) (w : World) (h1 : Bs w a1 m (xs ++ ys)) (h2 : Bs w a2 n xs) (h3 : Bs w a3 k ys) (hn : m ≤ 4000000) :
    Calls Try.prog 9 #[.slice a1 m c1, .slice a2 n c2, .slice a3 k c3] w fun e w' => e = .returned (.bool true) ∧ ∃ q, w' = w.drewN q := by
  have l1 := h1.len
  have l2 := h2.len
  have l3 := h3.len
  simp at l1
  have hm : m = n + k := by omega
  have hmn : n + k ≤ m := by omega
  have e2 : ((m : Int) != (n : Int) + (k : Int)) = false := by simp; omega
  have HM : Hid (m = n + k) := hm
  clear hm l1
  go_enter Try.func9, Try.ntmps9
  go_wp2
  go_loopw [7] (fun i wr => ∃ j : Nat, ∃ q : Nat, j ≤ n ∧ i = .int .i64 j ∧ wr = w.drewN q) (fun i _ => n - (intOf i).toNat)
  case atStart => exact ⟨0, 0, by omega, rfl, rfl⟩
  case round =>
    obtain ⟨j, q, hj, rfl, rfl⟩ := hrel
    by_cases hlt : j < n
    · obtain ⟨b1, o1, rfl, hc1⟩ := h1.cells (by omega)
      obtain ⟨b2, o2, rfl, hc2⟩ := h2.cells (by omega)
      have g1 := hc1 j (by omega)
      have g2 := hc2 j hlt
      rw [getD_app_l _ _ _ (by omega)] at g1
      generalize xs.getD j 0 = z at g1 g2
      have hjm : (j : Int) < (m : Int) := by omega
      clear hc1 hc2 h1 h2 h3
      go_wp2
      go_quiet (fail)
      go_wp2
      go_roundw
      case rel => exact ⟨j + 1, q + nq, by omega, by go_num, rfl⟩
      case measure => simp [intOf]; omega
    · go_wp2
      go_loopw [8] (fun i wr => ∃ j : Nat, ∃ q : Nat, j ≤ k ∧ i = .int .i64 j ∧ wr = w.drewN q) (fun i _ => k - (intOf i).toNat)
      case atStart => exact ⟨0, q, by omega, rfl, rfl⟩
      case round =>
        obtain ⟨i, q, hi, rfl, rfl⟩ := hrel
        by_cases hlt : i < k
        · obtain ⟨b1, o1, rfl, hc1⟩ := h1.cells (by omega)
          obtain ⟨b3, o3, rfl, hc3⟩ := h3.cells (by omega)
          have g1 := hc1 (n + i) (by omega)
          have g3 := hc3 i hlt
          rw [← l2, getD_app_r, l2] at g1
          generalize ys.getD i 0 = z at g1 g3
          have hjm : (n : Int) + (i : Int) < (m : Int) := by omega
          clear hc1 hc3 h1 h2 h3
          go_wp2
          go_quiet (fail)
          go_wp2
          go_roundw
          case rel => exact ⟨i + 1, q + nq, by omega, by go_num, rfl⟩
          case measure => simp [intOf]; omega
        · go_wp2
          go_ret
          exact ⟨rfl, q, rfl⟩
end Go.Proofs.Qxb6619289a
