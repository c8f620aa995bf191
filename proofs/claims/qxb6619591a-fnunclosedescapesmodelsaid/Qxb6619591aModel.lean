import Derived.Test.Qxb6619591aBase
namespace Go.Proofs.Qxb6619591a
open Go.RowKit Pl

theorem nil_eql (w : World) (a : Option Addr) (n c n' c' : Nat) : (binOp .eql 22 (.slice a n c) (.slice none n' c')).run Try.prog w = .ok (.bool a.isNone) w :=
  Lib.run_eql_slice_nil (P := Try.prog) w 22 3 a n c n' c' Try.underlying22

set_option maxHeartbeats 1000000 in
set_option maxRecDepth 100000 in
theorem clone_any (x : Addr) (n c : Nat) (xs : List Int) (w : World) (hn : n ≤ 100000) (hz : Zs w (some x) n xs) :
    Calls Try.prog 8 #[.slice (some x) n c] w fun e w' => ∃ a', e = .returned (.slice (some a') n n) ∧ Zs w' (some a') n xs ∧ Below w.heap.size w w' := by
  have q1 := nil_eql
  obtain ⟨i3, hi, hi0, hi1, hi2⟩ := info_parts info3
  have hmk : ∀ w : World, (Instr.makeSlice 22 (.int .i64 (n : Int)) (.int .i64 (n : Int))).run Try.prog w = .ok (.slice (some ⟨w.heap.size, 0, none⟩) n n) (w.alloc (.cells (madeCells (Value.int .i64 0).cells n) 3)) := by
    intro w
    have := run_make (P := Try.prog) w 22 3 i3 (.int .i64 0) Try.underlying22 hi hi0 .i64 .i64 n n (by omega) (by omega) (by rw [hi2]; omega) (by omega)
    rw [hi1] at this
    simpa using this
  have HZ := hid hz
  clear hz
  go_enter Try.func8, Try.ntmps8
  go_wp2
  go_loopw [4] (fun i wr => ∃ (k : Nat) (cur : Array Value), k ≤ n ∧ i = .int .i64 k ∧ wr = w.alloc (.cells cur 3) ∧ Hid (cur.size = n) ∧ Hid (∀ j, j < k → cur[j]? = some (.int .i64 (xs.getD j 0)))) (fun i _ => n - (intOf i).toNat)
  case atStart => exact ⟨0, _, Nat.zero_le _, rfl, rfl, hid (size_madeCells _ _), fun j h => absurd h (Nat.not_lt_zero _)⟩
  case round =>
    obtain ⟨k, cur, hk, rfl, rfl, HS, HC⟩ := hrel
    by_cases hlt : k < n
    · obtain ⟨b, o, e, hc⟩ := HZ.out.cells (by omega)
      obtain rfl := Option.some.inj e
      have g := hc k hlt
      have gb := World.block_lt_of_cell? w _ g
      generalize hzk : xs.getD k 0 = z at g
      have HZK := hid hzk
      have hcur : k < cur.size := by rw [HS.out]; exact hlt
      clear hc hzk e
      go_wp2
      go_roundw
      case rel =>
        refine ⟨k + 1, _, by omega, by go_num, rfl, hid (by rw [Array.size_setIfInBounds]; exact HS.out), hid (fun j hj => ?_)⟩
        rw [Array.getElem?_setIfInBounds]
        by_cases hjk : k = j
        · subst hjk
          rw [if_pos rfl, if_pos hcur, HZK.out]
        · rw [if_neg hjk]
          exact HC.out j (by omega)
      case measure => (simp [intOf]; omega)
    · obtain rfl : k = n := by omega
      go_wp2
      go_ret
      refine ⟨⟨w.heap.size, 0, none⟩, rfl, ⟨HZ.out.len, fun _ => ⟨w.heap.size, 0, rfl, fun i hi => ?_⟩⟩, (Below.refl _ _).alloc (Nat.le_refl _) _⟩
      rw [Nat.zero_add, cell_of_row _ _ _ _ _ _ (heap_alloc_new w _), HC.out i hi]

set_option maxHeartbeats 400000 in
theorem clone_nil (c : Nat) (w : World) :
    Calls Try.prog 8 #[.slice none 0 c] w fun e w' => e = .returned (.slice none 0 0) ∧ w' = w := by
  have q1 := nil_eql
  go_enter Try.func8, Try.ntmps8
  go_wp2
  go_ret
  exact ⟨rfl, rfl⟩
end Go.Proofs.Qxb6619591a
