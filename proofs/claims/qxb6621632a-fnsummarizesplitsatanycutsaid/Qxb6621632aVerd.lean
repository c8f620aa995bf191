import Derived.Test.Qxb6621632aSum
namespace Go.Proofs.Qxb6621632a
open Go.RowKit

def vzero : Value := .agg #[.string ByteArray.empty, .string ByteArray.empty, .string ByteArray.empty, .slice none 0 0]

theorem info51 : (Try.prog.info? 51).map (fun i => (i.zero, i.size, i.bytes)) = some (some vzero, 4, 72) := by kernel_rfl

theorem nil_eql (w : World) (a : Option Addr) (n c n' c' : Nat) : (binOp .eql 22 (.slice a n c) (.slice none n' c')).run Try.prog w = .ok (.bool a.isNone) w :=
  Lib.run_eql_slice_nil (P := Try.prog) w 22 9 a n c n' c' Try.underlying22

theorem set4_at (cur : Array Value) (k : Nat) (s : ByteArray) (j : Nat) (hj : j < 4) (h : k * 4 + 3 < cur.size) :
    ((((cur.setIfInBounds (k * 4) (.string ⟨#[]⟩)).setIfInBounds (k * 4 + 1) (.string s)).setIfInBounds (k * 4 + 2) (.string ⟨#[]⟩)).setIfInBounds (k * 4 + 3) (.slice none 0 0))[k * 4 + j]? = some (vcell s j) := by
  have hj' : j = 0 ∨ j = 1 ∨ j = 2 ∨ j = 3 := by omega
  rcases hj' with rfl | rfl | rfl | rfl
  · rw [Array.getElem?_setIfInBounds, if_neg (by omega), Array.getElem?_setIfInBounds, if_neg (by omega), Array.getElem?_setIfInBounds, if_neg (by omega), Array.getElem?_setIfInBounds, if_pos (by omega), if_pos (by omega)]
    rfl
  · rw [Array.getElem?_setIfInBounds, if_neg (by omega), Array.getElem?_setIfInBounds, if_neg (by omega), Array.getElem?_setIfInBounds, if_pos rfl, if_pos (by simp only [Array.size_setIfInBounds]; omega)]
    rfl
  · rw [Array.getElem?_setIfInBounds, if_neg (by omega), Array.getElem?_setIfInBounds, if_pos rfl, if_pos (by simp only [Array.size_setIfInBounds]; omega)]
    rfl
  · rw [Array.getElem?_setIfInBounds, if_pos rfl, if_pos (by simp only [Array.size_setIfInBounds]; omega)]
    rfl

theorem set4_other (cur : Array Value) (k i : Nat) (s : ByteArray) (j : Nat) (hj : j < 4) (h : ¬ i = k) :
    ((((cur.setIfInBounds (k * 4) (.string ⟨#[]⟩)).setIfInBounds (k * 4 + 1) (.string s)).setIfInBounds (k * 4 + 2) (.string ⟨#[]⟩)).setIfInBounds (k * 4 + 3) (.slice none 0 0))[i * 4 + j]? = cur[i * 4 + j]? := by
  rw [Array.getElem?_setIfInBounds, if_neg (by omega), Array.getElem?_setIfInBounds, if_neg (by omega), Array.getElem?_setIfInBounds, if_neg (by omega), Array.getElem?_setIfInBounds, if_neg (by omega)]

set_option maxHeartbeats 1000000 in
set_option maxRecDepth 100000 in
theorem verd_any (x : Addr) (n c : Nat) (ss : List ByteArray) (w : World) (hn : n ≤ 65536) (hz : Ss w (some x) n ss) :
    Calls Try.prog 10 #[.slice (some x) n c] w fun e w' => ∃ a', e = .returned (.slice (some a') n n) ∧ Vs w' (some a') n ss ∧ Below w.heap.size w w' := by
  have q1 := nil_eql
  obtain ⟨i51, hi, hi0, hi1, hi2⟩ := info_parts info51
  have hmk : ∀ w : World, (Instr.makeSlice 29 (.int .i64 (n : Int)) (.int .i64 (n : Int))).run Try.prog w = .ok (.slice (some ⟨w.heap.size, 0, none⟩) n n) (w.alloc (.cells (madeCells vzero.cells (n * 4)) 51)) := by
    intro w
    have := run_make (P := Try.prog) w 29 51 i51 vzero Try.underlying29 hi hi0 .i64 .i64 n n (by omega) (by omega) (by rw [hi2]; omega) (by omega)
    rw [hi1] at this
    simpa using this
  have HZ := hid hz
  clear hz
  obtain ⟨M, hM⟩ : ∃ M, M = madeCells vzero.cells (n * 4) := ⟨_, rfl⟩
  have hMs : M.size = n * 4 := by rw [hM, size_madeCells]
  rw [← hM] at hmk
  clear hM
  have HMS := hid hMs
  clear hMs
  go_enter Try.func10, Try.ntmps10
  go_wp2
  go_loopw [4] (fun i wr => ∃ (k : Nat) (cur : Array Value), k ≤ n ∧ i = .int .i64 k ∧ wr = w.alloc (.cells cur 51) ∧ Hid (cur.size = n * 4) ∧ Hid (∀ i, i < k → ∀ j, j < 4 → cur[i * 4 + j]? = some (vcell (ss.getD i ByteArray.empty) j))) (fun i _ => n - (intOf i).toNat)
  case atStart => exact ⟨0, _, Nat.zero_le _, rfl, rfl, HMS, fun j h => absurd h (Nat.not_lt_zero _)⟩
  case round =>
    obtain ⟨k, cur, hk, rfl, rfl, HS, HC⟩ := hrel
    by_cases hlt : k < n
    · obtain ⟨b, o, e, hc⟩ := HZ.out.cells (by omega)
      obtain rfl := Option.some.inj e
      have g := hc k hlt
      have gb := World.block_lt_of_cell? w _ g
      generalize hzk : ss.getD k ByteArray.empty = s at g
      have HZK := hid hzk
      have hc0 : k * 4 < cur.size := by rw [HS.out]; omega
      have hc1 : k * 4 + 1 < cur.size := by rw [HS.out]; omega
      have hc2 : k * 4 + 2 < cur.size := by rw [HS.out]; omega
      have hc3 : k * 4 + 3 < cur.size := by rw [HS.out]; omega
      clear hc hzk e
      go_wp2
      go_roundw
      case rel =>
        refine ⟨k + 1, _, by omega, by go_num, rfl, hid (by simp only [Array.size_setIfInBounds]; exact HS.out), hid (fun i hi j hj => ?_)⟩
        by_cases hik : i = k
        · subst hik
          rw [set4_at cur i s j hj hc3, HZK.out]
        · rw [set4_other cur k i s j hj hik]
          exact HC.out i (by omega) j hj
      case measure => (simp [intOf]; omega)
    · obtain rfl : k = n := by omega
      go_wp2
      go_ret
      refine ⟨⟨w.heap.size, 0, none⟩, rfl, ⟨HZ.out.len, fun _ => ⟨w.heap.size, 0, rfl, fun i hi j hj => ?_⟩⟩, (Below.refl _ _).alloc (Nat.le_refl _) _⟩
      rw [Nat.zero_add, cell_of_row _ _ _ _ _ _ (heap_alloc_new w _), HC.out i hi j hj]

set_option maxHeartbeats 400000 in
theorem verd_nil (c : Nat) (w : World) :
    Calls Try.prog 10 #[.slice none 0 c] w fun e w' => e = .returned (.slice none 0 0) ∧ w' = w := by
  have q1 := nil_eql
  go_enter Try.func10, Try.ntmps10
  go_wp2
  go_ret
  exact ⟨rfl, rfl⟩

theorem verd_all (a : Option Addr) (n c : Nat) (ss : List ByteArray) (w : World) (hn : n ≤ 65536) (hz : Ss w a n ss) (ha : a = none → n = 0) :
    Calls Try.prog 10 #[.slice a n c] w fun e w' => ∃ a', e = .returned (.slice a' n n) ∧ Vs w' a' n ss ∧ (a' = none → n = 0) ∧ Below w.heap.size w w' := by
  cases a with
  | none =>
    obtain rfl := ha rfl
    refine (verd_nil c w).mono ?_
    rintro e w' ⟨rfl, rfl⟩
    exact ⟨none, rfl, ⟨hz.len, fun h => absurd h (Nat.not_lt_zero _)⟩, fun _ => rfl, Below.refl _ _⟩
  | some x =>
    refine (verd_any x n c ss w hn hz).mono ?_
    rintro e w' ⟨a', rfl, h1, h2⟩
    exact ⟨some a', rfl, h1, (fun h => by cases h), h2⟩
end Go.Proofs.Qxb6621632a
