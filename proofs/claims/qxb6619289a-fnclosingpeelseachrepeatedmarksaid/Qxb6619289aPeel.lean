import Derived.Test.Qxb6619289aPlain
namespace Go.Proofs.Qxb6619289a
open Go.RowKit

set_option maxHeartbeats 400000 in
theorem size_yes (a : Option Addr) (n c : Nat) (w : World) (h : n ≤ 1048576) :
    Calls Try.prog 10 #[.slice a n c] w fun e w' => e = .returned (.bool true) ∧ w' = w := by
  have e1 : ¬ (1048576 : Int) < (n : Int) := by omega
  go_enter Try.func10, Try.ntmps10
  go_wp2
  go_ret
  exact ⟨rfl, rfl⟩

set_option maxHeartbeats 400000 in
theorem size_no (a : Option Addr) (n c : Nat) (w : World) (h : 1048576 < n) :
    Calls Try.prog 10 #[.slice a n c] w fun e w' => e = .returned (.bool false) ∧ w' = w := by
  have e1 : (1048576 : Int) < (n : Int) := by omega
  go_enter Try.func10, Try.ntmps10
  go_wp2
  go_ret
  exact ⟨rfl, rfl⟩

set_option maxHeartbeats 400000 in
theorem peel_big (a : Option Addr) (n c : Nat) (w : World) (h : 4096 < n) :
    Calls Try.prog 4 #[.slice a n c] w fun e w' => e = .returned (.bool true) ∧ Below w.heap.size w w' := by
  by_cases hb : 1048576 < n
  · go_enter Try.func4, Try.ntmps4
    go_wp2_with (go_at_call 10; refine (size_no _ _ _ _ hb).mono ?_; rintro e w' ⟨rfl, rfl⟩)
    go_ret
    exact ⟨rfl, Below.refl _ _⟩
  · have e1 : (4096 : Int) < (n : Int) := by omega
    go_enter Try.func4, Try.ntmps4
    go_wp2_with (go_at_call 10; refine (size_yes _ _ _ _ (by omega)).mono ?_; rintro e w' ⟨rfl, rfl⟩)
    go_ret
    exact ⟨rfl, Below.refl _ _⟩

/-- no opening brace: refused at once -/
theorem peel_none (a : Option Addr) (n c : Nat) (zs : List Int) (w : World) (hb : Bs w a n zs) (hnc : n ≤ c) (hn : n ≤ 4096) (h : ¬ zs.getD 0 0 = 123) :
    Calls Try.prog 4 #[.slice a n c] w fun e w' => e = .returned (.bool true) ∧ Below w.heap.size w w' := by
  have H7 := hid (zz_no a n c zs w hb hnc (not_mark zs h))
  have e1 : ¬ (4096 : Int) < (n : Int) := by omega
  have q1 := nil_neq
  by_cases h0 : 0 < n
  · obtain ⟨b, o, rfl, hc⟩ := hb.cells h0
    have g := hc 0 h0
    rw [Nat.add_zero] at g
    have hne : (zs.getD 0 0 == 123) = false := by simpa using h
    generalize zs.getD 0 0 = z at g hne
    clear hb hc h
    go_enter Try.func4, Try.ntmps4
    go_wp2_with (go_at_call 10; refine (size_yes _ _ _ _ (by omega)).mono ?_; rintro e w' ⟨rfl, rfl⟩)
    go_loop [5, 6] (fun c' i => c' = .slice (some ⟨b, o, none⟩) n c ∧ i = .int .i64 0) (fun _ _ => 0)
    case atStart => exact ⟨rfl, rfl⟩
    case round =>
      obtain ⟨rfl, rfl⟩ := hrel
      go_wp2_with (go_at_call 7; refine H7.out.mono ?_; rintro e w' ⟨rfl, hb'⟩)
      go_ret
      exact ⟨rfl, hb'⟩
  · have e2 : ¬ (0 : Int) < (n : Int) := by omega
    obtain rfl : n = 0 := by omega
    clear hb h
    go_enter Try.func4, Try.ntmps4
    go_wp2_with (go_at_call 10; refine (size_yes _ _ _ _ (by omega)).mono ?_; rintro e w' ⟨rfl, rfl⟩)
    go_loop [5, 6] (fun c' i => c' = .slice a 0 c ∧ i = .int .i64 0) (fun _ _ => 0)
    case atStart => exact ⟨rfl, rfl⟩
    case round =>
      obtain ⟨rfl, rfl⟩ := hrel
      go_wp2_with (go_at_call 7; refine H7.out.mono ?_; rintro e w' ⟨rfl, hb'⟩)
      go_ret
      exact ⟨rfl, hb'⟩

set_option maxHeartbeats 1000000 in
theorem peel_some (b o n c : Nat) (zs : List Int) (w : World) (hb : Bs w (some ⟨b, o, none⟩) n zs) (hnc : n ≤ c) (hn : n ≤ 4096) (h0 : 0 < n) (h : zs.getD 0 0 = 123) :
    Calls Try.prog 4 #[.slice (some ⟨b, o, none⟩) n c] w fun e w' => e = .returned (.bool true) ∧ Below w.heap.size w w' := by
  have hl := hb.len
  have e1 : ¬ (4096 : Int) < (n : Int) := by omega
  have q1 := nil_neq
  have g : w.cell? ⟨b, o, none⟩ = some (.int .u8 123) := by
    obtain ⟨b', o', e, hc⟩ := hb.cells h0
    have g := hc 0 h0
    simp at e
    obtain ⟨rfl, rfl⟩ := e
    rw [h] at g
    exact g
  have HZ := hid (head_brace zs (by omega) h)
  clear h
  go_enter Try.func4, Try.ntmps4
  go_wp2_with (go_at_call 10; refine (size_yes _ _ _ _ (by omega)).mono ?_; rintro e w' ⟨rfl, rfl⟩)
  rename World => w
  go_loopw [3, 4] (fun k p wr => ∃ j : Nat, ∃ q : Nat, 1 + 15 * j ≤ n ∧ k = .int .i64 j ∧ p = .int .i64 (1 + 15 * (j : Int)) ∧ wr = w.drewN q ∧ Hid (∀ i, i < j → MA zs (1 + 15 * i) rep)) (fun k _ _ => n - (intOf k).toNat)
  case atStart => exact ⟨0, 0, by omega, rfl, rfl, rfl, fun i hi => absurd hi (Nat.not_lt_zero _)⟩
  case round =>
    obtain ⟨j, q, hj, rfl, rfl, rfl, HM⟩ := hrel
    by_cases hm : MA zs (1 + 15 * j) rep
    · have H6 := match_yes (some ⟨b, o, none⟩) n c (1 + 15 * j) rep zs (w.drewN q) (hb.drewN q) (by omega) (by decide) (by decide) hm
      rw [show ((1 + 15 * j : Nat) : Int) = 1 + 15 * (j : Int) from by omega] at H6
      have H6 := hid H6
      have hj15 : 16 + 15 * j ≤ n := by have := hm.1; have e : rep.size = 15 := by decide
                                        omega
      have HMM := hid hm
      clear hm
      go_wp2_with (go_at_call 6; refine H6.out.mono ?_; rintro e w' ⟨rfl, q', rfl⟩)
      go_roundw
      case rel =>
        refine ⟨j + 1, q + q', by omega, by go_num, by go_num, by simp, fun i hi => ?_⟩
        by_cases hij : i < j
        · exact HM.out i hij
        · obtain rfl : i = j := by omega
          exact HMM.out
      case measure => simp [intOf]; omega
    · have H6 := match_no (some ⟨b, o, none⟩) n c (1 + 15 * j) rep zs (w.drewN q) (hb.drewN q) (by omega) (by decide) (by decide) (by omega) hm
      rw [show ((1 + 15 * j : Nat) : Int) = 1 + 15 * (j : Int) from by omega] at H6
      have H6 := hid H6
      have HNM := hid hm
      clear hm
      go_wp2_with (go_at_call 6; refine H6.out.mono ?_; rintro e w' ⟨rfl, q', rfl⟩)
      have HB := hid hb
      clear hb
      go_loopw [5, 6] (fun cu i wr => ∃ t : Nat, ∃ a' m c', t ≤ j ∧ cu = .slice a' m c' ∧ i = .int .i64 t ∧ m ≤ c' ∧ m + 15 * t = n ∧ Hid (Bs wr a' m (123 :: zs.drop (1 + 15 * t))) ∧ Hid (Below w.heap.size w wr)) (fun _ i _ => j - (intOf i).toNat)
      case atStart => exact ⟨0, some ⟨b, o, none⟩, n, c, by omega, rfl, rfl, hnc, by omega, hid (by have := HB.out.drewN (q + q'); rw [HZ.out] at this; simpa using this), hid (below_drewN (Below.refl _ _) _)⟩
      case round =>
        obtain ⟨t, a', m, c', ht, rfl, rfl, hmc, hmn, HBS, HBL⟩ := hrel
        by_cases htj : t < j
        · have hm15 : 16 ≤ m := by
            have h1 := (HM.out t htj).1
            have e : rep.size = 15 := by decide
            omega
          have H7 := hid (zz_yes a' m c' _ wr HBS.out hmc (by omega) ((brace_mark zs (1 + 15 * t)).2 (HM.out t htj)))
          have e5 : (((m - 15 : Nat) : Int) != (m : Int) - 15) = false := by simp; omega
          go_wp2_with (go_at_call 7; refine H7.out.mono ?_; rintro e w' ⟨g, cap, rfl, h1, h2, h3⟩)
          go_roundw
          case rel =>
            refine ⟨t + 1, some ⟨g, 0, none⟩, m - 15, cap, by omega, rfl, by go_num, h1, by omega, hid ?_, hid (HBL.out.trans (h3.mono HBL.out.size))⟩
            have e : (123 :: List.drop (1 + 15 * t) zs).drop 16 = zs.drop (1 + 15 * (t + 1)) := by
              show (zs.drop (1 + 15 * t)).drop 15 = _
              rw [List.drop_drop]
              congr 1
            rw [e] at h2
            exact h2
          case measure => simp [intOf]; omega
        · obtain rfl : t = j := by omega
          have H7 := hid (zz_no a' m c' _ wr HBS.out hmc (mt (brace_mark zs (1 + 15 * t)).1 HNM.out))
          by_cases ht0 : t = 0
          · subst ht0
            go_wp2_with (go_at_call 7; refine H7.out.mono ?_; rintro e w' ⟨rfl, hbl⟩)
            go_ret
            exact ⟨rfl, HBL.out.trans (hbl.mono HBL.out.size)⟩
          · have e0 : ((t : Int) == 0) = false := by simp; omega
            go_wp2_with (go_at_call 7; refine H7.out.mono ?_; rintro e w' ⟨rfl, hbl⟩)
            have HBL2 := hid (HBL.out.trans (hbl.mono HBL.out.size))
            have H8 := brace_yes a' (some ⟨b, o, none⟩) m c' n c (1 + 15 * t) zs _ (HBS.out.below hbl) (HB.out.below HBL2.out) (by omega) hj
            rw [show ((1 + 15 * t : Nat) : Int) = 1 + 15 * (t : Int) from by omega] at H8
            have H8 := hid H8
            refine H8.out.mono ?_
            rintro e w'' ⟨rfl, q3, rfl⟩
            go_wp2
            go_ret
            exact ⟨rfl, below_drewN HBL2.out _⟩

theorem peel_any (a : Option Addr) (n c : Nat) (zs : List Int) (w : World) (hb : Bs w a n zs) (hnc : n ≤ c) :
    Calls Try.prog 4 #[.slice a n c] w fun e w' => e = .returned (.bool true) ∧ Below w.heap.size w w' := by
  by_cases hbig : 4096 < n
  · exact peel_big a n c w hbig
  by_cases h : zs.getD 0 0 = 123
  · have h0 : 0 < n := by
      have hl := hb.len
      cases zs with
      | nil => simp at h
      | cons z zs => simp at hl; omega
    obtain ⟨b, o, rfl, hc⟩ := hb.cells h0
    exact peel_some b o n c zs w hb hnc (by omega) h0 h
  · exact peel_none a n c zs w hb hnc (by omega) h
end Go.Proofs.Qxb6619289a
