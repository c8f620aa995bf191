import Derived.Test.Qxb6619591aBase
namespace Go.Proofs.Qxb6619591a
open Go.RowKit Pl

theorem zz_nil (s : ByteArray) (f : Nat) (w : World) (hs : s.size ≤ 200000) (hf : f ≤ 9223372036854775807) (F : List Nat) (hF : fil s.data.toList f (bst s.data.toList (s.size - f)).2 = F) :
    Calls Try.prog 10 #[.string s, .int .i64 f, .slice none 0 0] w fun e w' => ∃ a' c', e = .returned (.slice a' F.length c') ∧ Zs w' a' F.length (F.map (fun k : Nat => (k : Int))) ∧ Below w.heap.size w w' := by
  have h := zz_any s f none 0 [] w hs hf (by omega) ⟨rfl, fun h => absurd h (Nat.not_lt_zero _)⟩ (fun _ => rfl)
  rw [hF] at h
  simpa using h

set_option maxHeartbeats 400000 in
theorem sizes_any (p s : ByteArray) (x : Int) (w : World) (hp : p.size ≤ 9223372036854775807) (hs : s.size ≤ 9223372036854775807) :
    Calls Try.prog 11 #[.string p, .string s, .int .i64 x] w fun e w' => (∃ bb, e = .returned (.bool bb)) ∧ w' = w := by
  go_enter Try.func11, Try.ntmps11
  go_wp2
  all_goals
    go_ret
    exact ⟨⟨_, rfl⟩, rfl⟩

set_option maxHeartbeats 400000 in
theorem sizes_yes (p s : ByteArray) (x : Int) (w : World) (hp : p.size ≤ 65536) (hs : s.size ≤ 65536) :
    Calls Try.prog 11 #[.string p, .string s, .int .i64 x] w fun e w' => e = .returned (.bool true) ∧ w' = w := by
  have e1 : ¬ (1048576 : Int) < (p.size : Int) := by omega
  have e2 : ¬ (1048576 : Int) < (s.size : Int) := by omega
  have e3 : ¬ (1048576 : Int) < (p.size : Int) + (s.size : Int) := by omega
  go_enter Try.func11, Try.ntmps11
  go_wp2
  go_ret
  exact ⟨rfl, rfl⟩

set_option maxRecDepth 100000 in
set_option maxHeartbeats 1000000 in
theorem shift_out (p s : ByteArray) (x : Int) (w : World) (hp : p.size ≤ 9223372036854775807) (hs : s.size ≤ 9223372036854775807) (h : 65536 < p.size ∨ 65536 < s.size ∨ x < 0) :
    Calls Try.prog 4 #[.string p, .string s, .int .i64 x] w fun e w' => e = .returned (.bool true) ∧ Below w.heap.size w w' := by
  have H := hid (sizes_any p s x w hp hs)
  by_cases h1 : 65536 < p.size
  · have e1 : (65536 : Int) < (p.size : Int) := by omega
    clear h
    go_enter Try.func4, Try.ntmps4
    go_wp2_with (go_at_call 11; refine H.out.mono ?_; rintro e w' ⟨⟨bb, rfl⟩, rfl⟩; cases bb)
    all_goals
      go_ret
      exact ⟨rfl, Below.refl _ _⟩
  · have e1 : ¬ (65536 : Int) < (p.size : Int) := by omega
    by_cases h2 : 65536 < s.size
    · have e2 : (65536 : Int) < (s.size : Int) := by omega
      clear h
      go_enter Try.func4, Try.ntmps4
      go_wp2_with (go_at_call 11; refine H.out.mono ?_; rintro e w' ⟨⟨bb, rfl⟩, rfl⟩; cases bb)
      all_goals
        go_ret
        exact ⟨rfl, Below.refl _ _⟩
    · have e2 : ¬ (65536 : Int) < (s.size : Int) := by omega
      have e3 : x < 0 := by omega
      clear h
      go_enter Try.func4, Try.ntmps4
      go_wp2_with (go_at_call 11; refine H.out.mono ?_; rintro e w' ⟨⟨bb, rfl⟩, rfl⟩; cases bb)
      all_goals
        go_ret
        exact ⟨rfl, Below.refl _ _⟩

theorem getD_cast (F : List Nat) (k : Nat) (h : k < F.length) : (F.map (fun k : Nat => (k : Int))).getD k 0 = ((F.getD k 0 : Nat) : Int) := by
  simp [List.getD, h]
theorem getD_cast2 (n : Nat) (F : List Nat) (k : Nat) (h : k < F.length) : (F.map (fun k : Nat => ((n + k : Nat) : Int))).getD k 0 = (n : Int) + ((F.getD k 0 : Nat) : Int) := by
  simp [List.getD, h]

theorem fil_lt (s : List UInt8) (g : Nat) (l : List Nat) (h : ∀ j ∈ l, j < s.length) : ∀ x ∈ fil s g l, x ≤ s.length := by
  intro x hx
  unfold fil at hx
  obtain ⟨j, hj, rfl⟩ := List.mem_map.1 hx
  have := h j (List.mem_filter.1 hj).1
  show j - 1 ≤ s.length
  omega

theorem cat_list (p s : ByteArray) : (p ++ s ++ ⟨#[92, 38, 123]⟩ : ByteArray).data.toList = p.data.toList ++ s.data.toList ++ [92, 38, 123] := by
  simp [ByteArray.data_append]

set_option maxRecDepth 100000 in
set_option maxHeartbeats 4000000 in
theorem shift_in (p s : ByteArray) (f g : Nat) (w : World) (hp : p.size ≤ 65536) (hs : s.size ≤ 65536) (hf : f ≤ 9223372036854775807) (hg : g = if s.size < f then s.size else f) :
    Calls Try.prog 4 #[.string p, .string s, .int .i64 f] w fun e w' => e = .returned (.bool true) ∧ Below w.heap.size w w' := by
  have e1 : ¬ (65536 : Int) < (p.size : Int) := by omega
  have e2 : ¬ (65536 : Int) < (s.size : Int) := by omega
  have e3 : ¬ (f : Int) < 0 := by omega
  have lp := list_len p
  have ls := list_len s
  have hgs : g ≤ s.size := by rw [hg]; split <;> omega
  have hbase := from_cap s.data.toList f
  rw [ls, ← hg] at hbase
  have hsh := shift_law p.data.toList s.data.toList g (by omega)
  rw [lp, ls] at hsh
  obtain ⟨F, hF⟩ : ∃ F, F = fil s.data.toList g (bst s.data.toList (s.size - g)).2 := ⟨_, rfl⟩
  rw [← hF] at hbase hsh
  have H1 := hid (zz_nil s f w (by omega) hf F hbase)
  obtain ⟨t, ht⟩ : ∃ t : ByteArray, t = p ++ s ++ ⟨#[92, 38, 123]⟩ := ⟨_, rfl⟩
  have htl : t.data.toList = p.data.toList ++ s.data.toList ++ [92, 38, 123] := by rw [ht, cat_list]
  have hts : t.size = p.size + s.size + 3 := by
    rw [← list_len t, htl]; simp; omega
  have H2 : Hid (∀ w : World, Calls Try.prog 10 #[.string t, .int .i64 ((p.size : Int) + (g : Int)), .slice none 0 0] w fun e w' => ∃ a' c', e = .returned (.slice a' (F.length + 1) c') ∧ Zs w' a' (F.length + 1) (((p.size + s.size : Nat) : Int) :: (F.map (fun k : Nat => ((p.size + k : Nat) : Int)))) ∧ Below w.heap.size w w') := hid (fun w => by
    have h := zz_nil t (p.size + g) w (by omega) (by omega) ((p.size + s.size) :: F.map (p.size + ·)) (by
      rw [htl, ← list_len t, htl]
      exact hsh)
    rw [show ((p.size + g : Nat) : Int) = (p.size : Int) + (g : Int) from by omega] at h
    simpa [Function.comp_def] using h)
  have HT := hid ht
  have hFl : F.length ≤ 65536 := by
    rw [hF]
    have a1 := fil_len s.data.toList g (bst s.data.toList (s.size - g)).2
    have a2 := bst_len s.data.toList (s.size - g)
    omega
  have HFB : Hid (∀ k, k < F.length → F.getD k 0 ≤ 65536) := hid (fun k hk => by
    have hm : F.getD k 0 ∈ F := by
      rw [List.getD, List.getElem?_eq_getElem hk]
      exact List.getElem_mem hk
    have := fil_lt s.data.toList g (bst s.data.toList (s.size - g)).2 (bst_lt s.data.toList _ (by omega)) (F.getD k 0) (by rw [← hF]; exact hm)
    omega)
  have HG := hid hg
  clear hbase hsh hF ht htl hts hg lp ls
  by_cases hfg : s.size < f
  · have e4 : (s.size : Int) < (f : Int) := by omega
    obtain rfl : g = s.size := by rw [HG.out, if_pos hfg]
    go_enter Try.func4, Try.ntmps4
    go_wp2_with (go_at_call 11; refine (sizes_yes _ _ _ _ hp hs).mono ?_; rintro e w' ⟨rfl, rfl⟩)
    rename World => w
    refine H1.out.mono ?_
    rintro e w1 ⟨a1, c1, rfl, hz1, hb1⟩
    have HZ1 := hid hz1
    have HB1 := hid hb1
    clear hz1 hb1
    go_wp2_with fail
    rw [← HT.out]
    refine (H2.out w1).mono ?_
    rintro e w2 ⟨a2, c2, rfl, hz2, hb2⟩
    have HZ2 := hid hz2
    have HZ1' := hid (HZ1.out.below hb2)
    have HB2 := hid (HB1.out.trans (hb2.mono HB1.out.size))
    obtain ⟨b2, o2, rfl, hc2⟩ := hz2.cells (by omega)
    have g0 := hc2 0 (by omega)
    simp only [List.getD_cons_zero, Nat.add_zero] at g0
    rw [show ((p.size + s.size : Nat) : Int) = (p.size : Int) + (s.size : Int) from by omega] at g0
    have HC2 := hid hc2
    clear hz2 hb2 hc2 HZ1 HB1 H1 H2
    go_wp2_with fail
    go_loopw [11] (fun i wr => ∃ k q : Nat, k ≤ F.length ∧ i = .int .i64 k ∧ wr = w2.drewN q) (fun i _ => F.length - (intOf i).toNat)
    case atStart => exact ⟨0, 0, Nat.zero_le _, rfl, rfl⟩
    case round =>
      obtain ⟨k, q, hk, rfl, rfl⟩ := hrel
      by_cases hlt : k < F.length
      · obtain ⟨b1, o1, rfl, hc1⟩ := HZ1'.out.cells (by omega)
        have g1 := hc1 k hlt
        have g2 := HC2.out (k + 1) (by omega)
        rw [List.getD_cons_succ] at g2
        rw [getD_cast F k hlt] at g1
        rw [getD_cast2 p.size F k hlt] at g2
        have hx := HFB.out k hlt
        generalize F.getD k 0 = x at g1 g2 hx
        clear hc1
        go_wp2
        go_quiet (fail)
        go_wp2
        go_roundw
        case rel => exact ⟨k + 1, q + nq, by omega, by go_num, rfl⟩
        case measure => (simp [intOf]; omega)
      · go_wp2
        go_ret
        exact ⟨rfl, below_drewN HB2.out _⟩
  · have e4 : ¬ (s.size : Int) < (f : Int) := by omega
    obtain rfl : g = f := by rw [HG.out, if_neg hfg]
    go_enter Try.func4, Try.ntmps4
    go_wp2_with (go_at_call 11; refine (sizes_yes _ _ _ _ hp hs).mono ?_; rintro e w' ⟨rfl, rfl⟩)
    rename World => w
    refine H1.out.mono ?_
    rintro e w1 ⟨a1, c1, rfl, hz1, hb1⟩
    have HZ1 := hid hz1
    have HB1 := hid hb1
    clear hz1 hb1
    go_wp2_with fail
    rw [← HT.out]
    refine (H2.out w1).mono ?_
    rintro e w2 ⟨a2, c2, rfl, hz2, hb2⟩
    have HZ2 := hid hz2
    have HZ1' := hid (HZ1.out.below hb2)
    have HB2 := hid (HB1.out.trans (hb2.mono HB1.out.size))
    obtain ⟨b2, o2, rfl, hc2⟩ := hz2.cells (by omega)
    have g0 := hc2 0 (by omega)
    simp only [List.getD_cons_zero, Nat.add_zero] at g0
    rw [show ((p.size + s.size : Nat) : Int) = (p.size : Int) + (s.size : Int) from by omega] at g0
    have HC2 := hid hc2
    clear hz2 hb2 hc2 HZ1 HB1 H1 H2
    go_wp2_with fail
    go_loopw [11] (fun i wr => ∃ k q : Nat, k ≤ F.length ∧ i = .int .i64 k ∧ wr = w2.drewN q) (fun i _ => F.length - (intOf i).toNat)
    case atStart => exact ⟨0, 0, Nat.zero_le _, rfl, rfl⟩
    case round =>
      obtain ⟨k, q, hk, rfl, rfl⟩ := hrel
      by_cases hlt : k < F.length
      · obtain ⟨b1, o1, rfl, hc1⟩ := HZ1'.out.cells (by omega)
        have g1 := hc1 k hlt
        have g2 := HC2.out (k + 1) (by omega)
        rw [List.getD_cons_succ] at g2
        rw [getD_cast F k hlt] at g1
        rw [getD_cast2 p.size F k hlt] at g2
        have hx := HFB.out k hlt
        generalize F.getD k 0 = x at g1 g2 hx
        clear hc1
        go_wp2
        go_quiet (fail)
        go_wp2
        go_roundw
        case rel => exact ⟨k + 1, q + nq, by omega, by go_num, rfl⟩
        case measure => (simp [intOf]; omega)
      · go_wp2
        go_ret
        exact ⟨rfl, below_drewN HB2.out _⟩
end Go.Proofs.Qxb6619591a
