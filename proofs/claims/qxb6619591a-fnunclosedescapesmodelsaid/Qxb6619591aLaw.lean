import Derived.Test.Qxb6619591aFwd
namespace Go.Proofs.Qxb6619591a
open Go.RowKit Pl

theorem clone_all (a : Option Addr) (n c : Nat) (xs : List Int) (w : World) (hn : n ≤ 100000) (hz : Zs w a n xs) (ha : a = none → n = 0) :
    Calls Try.prog 8 #[.slice a n c] w fun e w' => ∃ a', e = .returned (.slice a' n n) ∧ Zs w' a' n xs ∧ (a' = none → n = 0) ∧ Below w.heap.size w w' := by
  cases a with
  | none =>
    obtain rfl := ha rfl
    refine (clone_nil c w).mono ?_
    rintro e w' ⟨rfl, rfl⟩
    exact ⟨none, rfl, hz, fun _ => rfl, Below.refl _ _⟩
  | some x =>
    refine (clone_any x n c xs w hn hz).mono ?_
    rintro e w' ⟨a', rfl, h1, h2⟩
    exact ⟨some a', rfl, h1, (fun h => by cases h), h2⟩

set_option maxHeartbeats 400000 in
theorem msize_any (s : ByteArray) (x : Int) (a : Option Addr) (n c : Nat) (w : World) (hs : s.size ≤ 9223372036854775807) (hn : n ≤ 9223372036854775807) :
    Calls Try.prog 7 #[.string s, .int .i64 x, .slice a n c] w fun e w' => (∃ bb, e = .returned (.bool bb)) ∧ w' = w := by
  go_enter Try.func7, Try.ntmps7
  go_wp2
  all_goals
    go_ret
    exact ⟨⟨_, rfl⟩, rfl⟩

set_option maxHeartbeats 400000 in
theorem msize_yes (s : ByteArray) (x : Int) (a : Option Addr) (n c : Nat) (w : World) (hs : s.size ≤ 65536) (hn : n ≤ 65536) :
    Calls Try.prog 7 #[.string s, .int .i64 x, .slice a n c] w fun e w' => e = .returned (.bool true) ∧ w' = w := by
  have e1 : ¬ (1048576 : Int) < (s.size : Int) := by omega
  have e2 : ¬ (1048576 : Int) < (n : Int) := by omega
  have e3 : ¬ (1048576 : Int) < (s.size : Int) + (n : Int) := by omega
  go_enter Try.func7, Try.ntmps7
  go_wp2
  go_ret
  exact ⟨rfl, rfl⟩

set_option maxRecDepth 100000 in
set_option maxHeartbeats 1000000 in
theorem model_out (s : ByteArray) (x : Int) (a : Option Addr) (n c : Nat) (w : World) (hs : s.size ≤ 9223372036854775807) (hn : n ≤ 9223372036854775807) (h : 65536 < s.size ∨ 65536 < n ∨ x < 0) :
    Calls Try.prog 3 #[.string s, .int .i64 x, .slice a n c] w fun e w' => e = .returned (.bool true) ∧ Below w.heap.size w w' := by
  have H := hid (msize_any s x a n c w hs hn)
  by_cases h1 : 65536 < s.size
  · have e1 : (65536 : Int) < (s.size : Int) := by omega
    clear h
    go_enter Try.func3, Try.ntmps3
    go_wp2_with (go_at_call 7; refine H.out.mono ?_; rintro e w' ⟨⟨bb, rfl⟩, rfl⟩; cases bb)
    all_goals
      go_ret
      exact ⟨rfl, Below.refl _ _⟩
  · have e1 : ¬ (65536 : Int) < (s.size : Int) := by omega
    by_cases h2 : 65536 < n
    · have e2 : (65536 : Int) < (n : Int) := by omega
      clear h
      go_enter Try.func3, Try.ntmps3
      go_wp2_with (go_at_call 7; refine H.out.mono ?_; rintro e w' ⟨⟨bb, rfl⟩, rfl⟩; cases bb)
      all_goals
        go_ret
        exact ⟨rfl, Below.refl _ _⟩
    · have e2 : ¬ (65536 : Int) < (n : Int) := by omega
      have e3 : x < 0 := by omega
      clear h
      go_enter Try.func3, Try.ntmps3
      go_wp2_with (go_at_call 7; refine H.out.mono ?_; rintro e w' ⟨⟨bb, rfl⟩, rfl⟩; cases bb)
      all_goals
        go_ret
        exact ⟨rfl, Below.refl _ _⟩

theorem app_l (xs ys : List Int) (i : Nat) (h : i < xs.length) : (xs ++ ys).getD i 0 = xs.getD i 0 := by
  simp [List.getD, List.getElem?_append_left h]
theorem app_r (xs ys : List Int) (i : Nat) : (xs ++ ys).getD (xs.length + i) 0 = ys.getD i 0 := by
  simp [List.getD, List.getElem?_append_right]

set_option maxRecDepth 100000 in
set_option maxHeartbeats 4000000 in
theorem model_in (s : ByteArray) (f : Nat) (a : Option Addr) (n c : Nat) (xs : List Int) (w : World) (hs : s.size ≤ 65536) (hn : n ≤ 65536) (hf : f ≤ 9223372036854775807) (hz : Zs w a n xs) (ha : a = none → n = 0) :
    Calls Try.prog 3 #[.string s, .int .i64 f, .slice a n c] w fun e w' => e = .returned (.bool true) ∧ Below w.heap.size w w' := by
  have e1 : ¬ (65536 : Int) < (s.size : Int) := by omega
  have e2 : ¬ (65536 : Int) < (n : Int) := by omega
  have e3 : ¬ (f : Int) < 0 := by omega
  have hml := model_law s.data.toList f
  rw [list_len] at hml
  have Hfw := fun w : World => fwd_any s f w (by omega) hf
  have Hbk := fun (a : Option Addr) (w : World) (hz : Zs w a n xs) (ha : a = none → n = 0) => zz_any s f a n xs w (by omega) hf (by omega) hz ha
  rw [hml] at Hfw
  have hFl : (fil s.data.toList f (bst s.data.toList (s.size - f)).2).length ≤ 65536 := by
    have a1 := fil_len s.data.toList f (bst s.data.toList (s.size - f)).2
    have a2 := bst_len s.data.toList (s.size - f)
    omega
  have HFW := hid Hfw
  have HBK := hid Hbk
  have HZ := hid hz
  have HA := hid ha
  clear Hfw Hbk hml hz ha
  generalize fil s.data.toList f (bst s.data.toList (s.size - f)).2 = F at *
  go_enter Try.func3, Try.ntmps3
  go_wp2_with (go_at_call 7; refine (msize_yes _ _ _ _ _ _ hs hn).mono ?_; rintro e w' ⟨rfl, rfl⟩)
  rename World => w
  refine (clone_all a n c xs w (by omega) HZ.out HA.out).mono ?_
  rintro e w1 ⟨a1, rfl, hz1, ha1, hb1⟩
  have HZ1 := hid hz1
  have HB1 := hid hb1
  clear hz1 hb1 ha1
  go_wp2_with fail
  refine (clone_all a n c xs w1 (by omega) (HZ.out.below HB1.out) HA.out).mono ?_
  rintro e w2 ⟨a2, rfl, hz2, ha2, hb2⟩
  have HZ2 := hid hz2
  have HA2 := hid ha2
  have HZ1b := hid (HZ1.out.below hb2)
  have HB2 := hid (HB1.out.trans (hb2.mono HB1.out.size))
  clear hz2 hb2 ha2 HZ1 HB1
  go_wp2_with fail
  refine (HFW.out w2).mono ?_
  rintro e w3 ⟨a3, c3, rfl, hz3, hb3⟩
  have HZ3 := hid hz3
  have HZ1c := hid (HZ1b.out.below hb3)
  have HZ2c := hid (HZ2.out.below hb3)
  have HB3 := hid (HB2.out.trans (hb3.mono HB2.out.size))
  clear hz3 hb3 HZ1b HZ2 HB2
  go_wp2_with fail
  refine (HBK.out a2 w3 HZ2c.out HA2.out).mono ?_
  rintro e w4 ⟨a4, c4, rfl, hz4, hb4⟩
  have HZ4 := hid hz4
  have HZ1d := hid (HZ1c.out.below hb4)
  have HZ3d := hid (HZ3.out.below hb4)
  have HB4 := hid (HB3.out.trans (hb4.mono HB3.out.size))
  have HL := hid HZ.out.len
  clear hz4 hb4 HZ1c HZ2c HZ3 HB3 HFW HBK HZ
  have e4 : (((n + F.length : Nat) : Int) != (n : Int) + (F.length : Int)) = false := by simp
  go_wp2_with fail
  go_loopw [10] (fun i wr => ∃ k q : Nat, k ≤ n ∧ i = .int .i64 k ∧ wr = w4.drewN q) (fun i _ => n - (intOf i).toNat)
  case atStart => exact ⟨0, 0, Nat.zero_le _, rfl, rfl⟩
  case round =>
    obtain ⟨k, q, hk, rfl, rfl⟩ := hrel
    by_cases hlt : k < n
    · obtain ⟨b1, o1, rfl, hc1⟩ := HZ1d.out.cells (by omega)
      obtain ⟨b4, o4, rfl, hc4⟩ := HZ4.out.cells (by omega)
      have g1 := hc1 k hlt
      have g4 := hc4 k (by omega)
      rw [app_l _ _ _ (by rw [HL.out]; exact hlt)] at g4
      generalize xs.getD k 0 = z at g1 g4
      have hkn : (k : Int) < ((n + F.length : Nat) : Int) := by omega
      clear hc1 hc4
      go_wp2
      go_quiet (fail)
      go_wp2
      go_roundw
      case rel => exact ⟨k + 1, q + nq, by omega, by go_num, rfl⟩
      case measure => (simp [intOf]; omega)
    · go_wp2
      go_loopw [11] (fun i wr => ∃ k q : Nat, k ≤ F.length ∧ i = .int .i64 k ∧ wr = w4.drewN q) (fun i _ => F.length - (intOf i).toNat)
      case atStart => exact ⟨0, q, Nat.zero_le _, rfl, rfl⟩
      case round =>
        obtain ⟨m, q, hm, rfl, rfl⟩ := hrel
        by_cases hlt2 : m < F.length
        · obtain ⟨b3, o3, rfl, hc3⟩ := HZ3d.out.cells (by omega)
          obtain ⟨b4, o4, rfl, hc4⟩ := HZ4.out.cells (by omega)
          have g3 := hc3 m hlt2
          have g4 := hc4 (n + m) (by omega)
          rw [← HL.out, app_r, HL.out] at g4
          generalize (F.map (fun k : Nat => (k : Int))).getD m 0 = z at g3 g4
          have hkn : (n : Int) + (m : Int) < ((n + F.length : Nat) : Int) := by omega
          clear hc3 hc4
          go_wp2
          go_quiet (fail)
          go_wp2
          go_roundw
          case rel => exact ⟨m + 1, q + nq, by omega, by go_num, rfl⟩
          case measure => (simp [intOf]; omega)
        · go_wp2
          go_ret
          exact ⟨rfl, below_drewN HB4.out _⟩
end Go.Proofs.Qxb6619591a
