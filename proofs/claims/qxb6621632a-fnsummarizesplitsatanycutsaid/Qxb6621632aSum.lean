import Derived.Test.Qxb6621632aBase
namespace Go.Proofs.Qxb6621632a
open Go.RowKit

/-- a verdict's four cells -/
def vcell (s : ByteArray) : Nat → Value
  | 0 => .string ByteArray.empty
  | 1 => .string s
  | 2 => .string ByteArray.empty
  | _ => .slice none 0 0

/-- a slice of verdicts: their severities -/
structure Vs (w : World) (a : Option Addr) (n : Nat) (ss : List ByteArray) : Prop where
  len : ss.length = n
  cells : 0 < n → ∃ b o, a = some ⟨b, o, none⟩ ∧ ∀ i, i < n → ∀ j, j < 4 → w.cell? ⟨b, o + i * 4 + j, none⟩ = some (vcell (ss.getD i ByteArray.empty) j)

theorem Vs.below {w w' : World} {a : Option Addr} {n : Nat} {zs : List ByteArray} (h : Vs w a n zs) (hb : Below w.heap.size w w') : Vs w' a n zs :=
  ⟨h.len, fun h0 => by
    obtain ⟨b, o, e, hc⟩ := h.cells h0
    exact ⟨b, o, e, fun i hi j hj => by rw [hb.cell (World.block_lt_of_cell? w _ (hc i hi j hj)), hc i hi j hj]⟩⟩

/-- the call's two boxes -/
structure Bx (w wr : World) (e f g : Nat) : Prop where
  bel : Below w.heap.size w wr
  size : w.heap.size + 2 ≤ wr.heap.size
  res : wr.heap[w.heap.size]? = some (.cells #[.int .i64 0, .int .i64 0, .int .i64 0] 27 (0, 0))
  sum : wr.heap[w.heap.size + 1]? = some (.cells #[.int .i64 (e : Int), .int .i64 (f : Int), .int .i64 (g : Int)] 27 (0, 0))

theorem frozen_of_row (w : World) (g j : Nat) (cs : Array Value) (t : TypeId) (hg : w.heap[g]? = some (.cells cs t (0, 0))) : w.frozen? ⟨g, j, none⟩ = false := by
  simp [World.frozen?, hg]

theorem Bx.alloc {w wr : World} {e f g : Nat} (h : Bx w wr e f g) (o : Obj) : Bx w (wr.alloc o) e f g :=
  ⟨h.bel.alloc h.bel.size o, by have := h.size; simp; omega, by rw [Below.heap_alloc _ _ _ (by have := h.size; omega)]; exact h.res, by rw [Below.heap_alloc _ _ _ (by have := h.size; omega)]; exact h.sum⟩

theorem Bx.set0 {w wr : World} {e f g : Nat} (h : Bx w wr e f g) : Bx w (wr.setCell ⟨w.heap.size + 1, 0, none⟩ (.int .i64 ((e : Int) + 1))) (e + 1) f g :=
  ⟨h.bel.setCell (by show _ ≤ w.heap.size + 1; omega) _, by have := h.size; simp; omega, by rw [Below.heap_setCell _ _ _ _ (by show _ ≠ w.heap.size + 1; omega)]; exact h.res, by rw [heap_setCell_same _ _ _ _ _ _ h.sum]; simp⟩
theorem Bx.set1 {w wr : World} {e f g : Nat} (h : Bx w wr e f g) : Bx w (wr.setCell ⟨w.heap.size + 1, 1, none⟩ (.int .i64 ((f : Int) + 1))) e (f + 1) g :=
  ⟨h.bel.setCell (by show _ ≤ w.heap.size + 1; omega) _, by have := h.size; simp; omega, by rw [Below.heap_setCell _ _ _ _ (by show _ ≠ w.heap.size + 1; omega)]; exact h.res, by rw [heap_setCell_same _ _ _ _ _ _ h.sum]; simp⟩
theorem Bx.set2 {w wr : World} {e f g : Nat} (h : Bx w wr e f g) : Bx w (wr.setCell ⟨w.heap.size + 1, 2, none⟩ (.int .i64 ((g : Int) + 1))) e f (g + 1) :=
  ⟨h.bel.setCell (by show _ ≤ w.heap.size + 1; omega) _, by have := h.size; simp; omega, by rw [Below.heap_setCell _ _ _ _ (by show _ ≠ w.heap.size + 1; omega)]; exact h.res, by rw [heap_setCell_same _ _ _ _ _ _ h.sum]; simp⟩

set_option maxHeartbeats 2000000 in
set_option maxRecDepth 100000 in
theorem sum_any (a : Option Addr) (n c : Nat) (ss : List ByteArray) (w : World) (hn : n ≤ 70000) (hz : Vs w a n ss) :
    Calls Try.prog 9 #[.slice a n c] w fun e w' => e = .returned (.agg #[.int .i64 (cE ss : Int), .int .i64 (cW ss : Int), .int .i64 (cN ss : Int)]) ∧ Below w.heap.size w w' := by
  have HZ := hid hz
  clear hz
  go_enter Try.func9, Try.ntmps9
  go_wp2
  go_loopw [8] (fun i wr => ∃ k : Nat, k ≤ n ∧ i = .int .i64 k ∧ Hid (Bx w wr (cE (ss.take k)) (cW (ss.take k)) (cN (ss.take k)))) (fun i _ => n - (intOf i).toNat)
  case atStart =>
    refine ⟨0, Nat.zero_le _, rfl, hid ⟨?_, ?_, ?_, ?_⟩⟩
    · exact ((Below.refl _ _).alloc (Nat.le_refl _) _).alloc (by simp) _
    · simp
    · show (((w.heap.push _).push _))[w.heap.size]? = _
      simp [Array.getElem?_push]
    · have h := heap_alloc_new (w.alloc (.cells #[.int .i64 0, .int .i64 0, .int .i64 0] 27)) (.cells #[.int .i64 0, .int .i64 0, .int .i64 0] 27)
      rw [World.size_alloc] at h
      exact h
  case round =>
    obtain ⟨k, hk, rfl, HB⟩ := hrel
    by_cases hlt : k < n
    · obtain ⟨b, o, rfl, hc⟩ := HZ.out.cells (by omega)
      have v0 := hc k hlt 0 (by omega)
      have v1 := hc k hlt 1 (by omega)
      have v2 := hc k hlt 2 (by omega)
      have v3 := hc k hlt 3 (by omega)
      have bl := World.block_lt_of_cell? w _ v0
      simp only at bl
      rw [← HB.out.bel.cell (p := ⟨b, _, none⟩) bl] at v0 v1 v2 v3
      simp only [vcell, Nat.add_zero] at v0 v1 v2 v3
      have hl := HZ.out.len
      have ts := take_snoc ss k (by omega)
      have ke := cE_le (ss.take k)
      have kw := cW_le (ss.take k)
      have kn := cN_le (ss.take k)
      rw [List.length_take] at ke kw kn
      have xe := cE_snoc (ss.take k) (ss.getD k ByteArray.empty)
      have xw := cW_snoc (ss.take k) (ss.getD k ByteArray.empty)
      have xn := cN_snoc (ss.take k) (ss.getD k ByteArray.empty)
      rw [← ts] at xe xw xn
      generalize ss.getD k ByteArray.empty = s at *
      generalize cE (ss.take k) = e at *
      generalize cW (ss.take k) = f at *
      generalize cN (ss.take k) = g at *
      have s0 := cell_of_row _ _ 0 _ _ _ HB.out.sum
      have s1 := cell_of_row _ _ 1 _ _ _ HB.out.sum
      have s2 := cell_of_row _ _ 2 _ _ _ HB.out.sum
      have f0 := frozen_of_row _ _ 0 _ _ HB.out.sum
      have f1 := frozen_of_row _ _ 1 _ _ HB.out.sum
      have f2 := frozen_of_row _ _ 2 _ _ HB.out.sum
      simp at s0 s1 s2
      have hsz : w.heap.size + 1 < wr.heap.size := HB.out.size
      have XE := hid xe
      have XW := hid xw
      have XN := hid xn
      clear hc ts xe xw xn
      by_cases h1 : sevE s = true
      · obtain ⟨h2, h3⟩ := e_not_w s h1
        rw [if_pos h1] at XE
        rw [if_neg (by rw [h2]; simp)] at XW
        rw [if_neg (by rw [h3]; simp)] at XN
        unfold sevE at h1
        clear h2 h3
        go_wp2
        go_roundw
        case rel => exact ⟨k + 1, by omega, by go_num, hid (by rw [XE.out, XW.out, XN.out]; exact HB.out.set0.alloc _)⟩
        case measure => (simp [intOf]; omega)
      · have h1 : sevE s = false := by simpa using h1
        rw [if_neg (by rw [h1]; simp)] at XE
        by_cases h2 : sevW s = true
        · have h3 := (w_not_e s h2).2
          rw [if_pos h2] at XW
          rw [if_neg (by rw [h3]; simp)] at XN
          unfold sevE at h1
          unfold sevW at h2
          clear h3
          go_wp2
          go_roundw
          case rel => exact ⟨k + 1, by omega, by go_num, hid (by rw [XE.out, XW.out, XN.out]; exact HB.out.set1.alloc _)⟩
          case measure => (simp [intOf]; omega)
        · have h2 : sevW s = false := by simpa using h2
          rw [if_neg (by rw [h2]; simp)] at XW
          by_cases h3 : sevN s = true
          · rw [if_pos h3] at XN
            unfold sevE at h1
            unfold sevW at h2
            unfold sevN at h3
            go_wp2
            go_roundw
            case rel => exact ⟨k + 1, by omega, by go_num, hid (by rw [XE.out, XW.out, XN.out]; exact HB.out.set2.alloc _)⟩
            case measure => (simp [intOf]; omega)
          · have h3 : sevN s = false := by simpa using h3
            rw [if_neg (by rw [h3]; simp)] at XN
            unfold sevE at h1
            unfold sevW at h2
            unfold sevN at h3
            go_wp2
            go_roundw
            case rel => exact ⟨k + 1, by omega, by go_num, hid (by rw [XE.out, XW.out, XN.out]; exact HB.out.alloc _)⟩
            case measure => (simp [intOf]; omega)
    · have hl := HZ.out.len
      have tk : ss.take k = ss := List.take_of_length_le (by omega)
      rw [tk] at HB
      have s0 := cell_of_row _ _ 0 _ _ _ HB.out.sum
      have s1 := cell_of_row _ _ 1 _ _ _ HB.out.sum
      have s2 := cell_of_row _ _ 2 _ _ _ HB.out.sum
      have r0 := cell_of_row _ _ 0 _ _ _ HB.out.res
      have r1 := cell_of_row _ _ 1 _ _ _ HB.out.res
      have r2 := cell_of_row _ _ 2 _ _ _ HB.out.res
      have f0 := frozen_of_row _ _ 0 _ _ HB.out.res
      have f1 := frozen_of_row _ _ 1 _ _ HB.out.res
      have f2 := frozen_of_row _ _ 2 _ _ HB.out.res
      simp at s0 s1 s2 r0 r1 r2
      have hsz : w.heap.size + 1 < wr.heap.size := HB.out.size
      have hr : (((wr.setCell ⟨w.heap.size, 0, none⟩ (.int .i64 (cE ss : Int))).setCell ⟨w.heap.size, 1, none⟩ (.int .i64 (cW ss : Int))).setCell ⟨w.heap.size, 2, none⟩ (.int .i64 (cN ss : Int))).heap[w.heap.size]? = some (.cells #[.int .i64 (cE ss : Int), .int .i64 (cW ss : Int), .int .i64 (cN ss : Int)] 27 (0, 0)) := by
        rw [heap_setCell_same _ _ _ _ _ _ (heap_setCell_same _ _ _ _ _ _ (heap_setCell_same _ _ _ _ _ _ HB.out.res))]
        rfl
      have q0 := cell_of_row _ _ 0 _ _ _ hr
      have q1 := cell_of_row _ _ 1 _ _ _ hr
      have q2 := cell_of_row _ _ 2 _ _ _ hr
      simp at q0 q1 q2
      have HQ := hid (And.intro q0 (And.intro q1 q2))
      clear tk hr q0 q1 q2
      go_wp2
      obtain ⟨q0, q1, q2⟩ := HQ.out
      exact bodyPost_ret (v := .agg #[.int .i64 (cE ss : Int), .int .i64 (cW ss : Int), .int .i64 (cN ss : Int)]) (by simp [results, Try.results9, go_sem, q0, q1, q2]) rfl
        ⟨rfl, ((HB.out.bel.setCell (Nat.le_refl _) _).setCell (Nat.le_refl _) _).setCell (Nat.le_refl _) _⟩
end Go.Proofs.Qxb6621632a
