import Derived.Test.Qxb6619289aPlain
import Derived.Laws.CopyOwn
import Derived.Deep.DeepCutAuto
namespace Go.Proofs.Qxb6619289a
open Go.RowKit

set_option maxHeartbeats 400000 in
theorem size2_yes (a : Option Addr) (n c : Nat) (a1 : Option Addr) (n1 c1 : Nat) (w : World) (h : n ≤ 65536) (h1 : n1 ≤ 65536) :
    Calls Try.prog 5 #[.slice a n c, .slice a1 n1 c1] w fun e w' => e = .returned (.bool true) ∧ w' = w := by
  have e1 : ¬ (1048576 : Int) < (n : Int) := by omega
  have e2 : ¬ (1048576 : Int) < (n1 : Int) := by omega
  have e3 : ¬ (1048576 : Int) < (n : Int) + (n1 : Int) := by omega
  go_enter Try.func5, Try.ntmps5
  go_wp2
  go_ret
  exact ⟨rfl, rfl⟩

set_option maxHeartbeats 400000 in
theorem size2_any (a : Option Addr) (n c : Nat) (a1 : Option Addr) (n1 c1 : Nat) (w : World) (hn : n ≤ 9223372036854775807) (hn1 : n1 ≤ 9223372036854775807) :
    Calls Try.prog 5 #[.slice a n c, .slice a1 n1 c1] w fun e w' => (∃ bb, e = .returned (.bool bb)) ∧ w' = w := by
  go_enter Try.func5, Try.ntmps5
  go_wp2
  all_goals
    go_ret
    exact ⟨⟨_, rfl⟩, rfl⟩

set_option maxHeartbeats 400000 in
theorem agree_big (a : Option Addr) (n c : Nat) (a1 : Option Addr) (n1 c1 : Nat) (w : World) (hn : n ≤ 9223372036854775807) (hn1 : n1 ≤ 9223372036854775807) (h : 65536 < n ∨ 65536 < n1) :
    Calls Try.prog 3 #[.slice a n c, .slice a1 n1 c1] w fun e w' => e = .returned (.bool true) ∧ Below w.heap.size w w' := by
  have H5 := hid (size2_any a n c a1 n1 c1 w hn hn1)
  by_cases h1 : 65536 < n
  · have e1 : (65536 : Int) < (n : Int) := by omega
    clear h
    go_enter Try.func3, Try.ntmps3
    go_wp2_with (go_at_call 5; refine H5.out.mono ?_; rintro e w' ⟨⟨bb, rfl⟩, rfl⟩; cases bb)
    all_goals
      go_ret
      exact ⟨rfl, Below.refl _ _⟩
  · have e1 : ¬ (65536 : Int) < (n : Int) := by omega
    have e2 : (65536 : Int) < (n1 : Int) := by omega
    clear h
    go_enter Try.func3, Try.ntmps3
    go_wp2_with (go_at_call 5; refine H5.out.mono ?_; rintro e w' ⟨⟨bb, rfl⟩, rfl⟩; cases bb)
    all_goals
      go_ret
      exact ⟨rfl, Below.refl _ _⟩

theorem bs_of_row {w : World} {g n : Nat} {xs : List Int} (hl : xs.length = n) (hr : ∀ z ∈ xs, 0 ≤ z ∧ z ≤ 255) {cs : Array Value} (hg : w.heap[g]? = some (.cells cs 5 (0, 0))) (hcs : ∀ i, i < n → cs[i]? = some (.int .u8 (xs.getD i 0))) :
    Bs w (some ⟨g, 0, none⟩) n xs :=
  ⟨hl, hr, fun _ => ⟨g, 0, rfl, fun i hi => by rw [Nat.zero_add, cell_of_row _ _ _ _ _ _ hg, hcs i hi]⟩⟩

theorem len_of_mark {xs : List Int} (h : xs.take 16 = markZ) : 16 ≤ xs.length := by
  have := congrArg List.length h
  simp [markZ] at this
  omega

theorem take_app (xs ys : List Int) (h : xs.take 16 = markZ) : (xs ++ ys).take 16 = markZ := by
  rw [List.take_append_of_le_length (len_of_mark h), h]

theorem app_take (xs ys : List Int) (h : 16 ≤ xs.length) (e : (xs ++ ys).take 16 = markZ) : xs.take 16 = markZ := by
  rw [← e, List.take_append_of_le_length h]

theorem drop_app (xs ys : List Int) (h : 16 ≤ xs.length) : 123 :: (xs ++ ys).drop 16 = (123 :: xs.drop 16) ++ ys := by
  rw [List.drop_append_of_le_length h]
  rfl

theorem nil_eql (w : World) (a : Option Addr) (n c n' c' : Nat) : (binOp .eql 22 (.slice a n c) (.slice none n' c')).run Try.prog w = .ok (.bool a.isNone) w :=
  Lib.run_eql_slice_nil (P := Try.prog) w 22 5 a n c n' c' Try.underlying22

set_option maxRecDepth 100000 in
set_option maxHeartbeats 4000000 in
/-- the head of the law: up to the copy -/
theorem agree_head (a : Option Addr) (n c : Nat) (xs : List Int) (a1 : Option Addr) (n1 c1 : Nat) (ys : List Int) (w : World) (hb : Bs w a n xs) (hb1 : Bs w a1 n1 ys) (hnc : n ≤ c) (_hnc1 : n1 ≤ c1) (hz : a = none → n = 0 ∧ c = 0) (hz1 : a1 = none → n1 = 0 ∧ c1 = 0) (h : n ≤ 65536) (h1 : n1 ≤ 65536) :
    Calls Try.prog 3 #[.slice a n c, .slice a1 n1 c1] w fun e w' => e = .returned (.bool true) ∧ Below w.heap.size w w' := by
  have e1 : ¬ (65536 : Int) < (n : Int) := by omega
  have e2 : ¬ (65536 : Int) < (n1 : Int) := by omega
  have q1 := nil_neq
  have q2 := nil_eql
  have HB := hid hb
  have HB1 := hid hb1
  have HZ := hid hz
  have HZ1 := hid hz1
  clear hb hb1 hz hz1
  obtain ⟨i5, hi, hi0, hi1, hi2⟩ := info_parts info5
  have hmk : ∀ w : World, (Instr.makeSlice 22 (.int .i64 (n : Int)) (.int .i64 (n : Int))).run Try.prog w = .ok (.slice (some ⟨w.heap.size, 0, none⟩) n n) (w.alloc (.cells (madeCells (Value.int .u8 0).cells n) 5)) := by
    intro w
    have := run_make (P := Try.prog) w 22 5 i5 (.int .u8 0) Try.underlying22 hi hi0 .i64 .i64 n n (by omega) (by omega) (by rw [hi2]; omega) (by omega)
    rw [hi1] at this
    simpa using this
  go_enter Try.func3, Try.ntmps3
  go_upto_if 24 with (go_at_call 5; refine (size2_yes _ _ _ _ _ _ _ h h1).mono ?_; rintro e w' ⟨rfl, rfl⟩)
  rename World => w
  go_cut [0, 5] (fun t z wc => ∃ a' c', t = .slice a' n c' ∧ n ≤ c' ∧ Hid (a' = none → n = 0 ∧ c' = 0) ∧ Hid (Bs wc a' n xs) ∧ Hid (Below w.heap.size w wc))
  case first =>
    rcases a with _ | x
    · have e6 : (none : Option Addr).isSome = false := rfl
      rw [e6]
      clear e6
      go_wp2_with fail
      go_meet
      case rel => exact ⟨none, c, rfl, hnc, hid (fun _ => HZ.out trivial), HB, hid (Below.refl _ _)⟩
    · have hg : (w.alloc (.cells (madeCells (Value.int .u8 0).cells n) 5)).heap[w.heap.size]? = some (.cells (madeCells (Value.int .u8 0).cells n).toList.toArray 5 (0, 0)) := by
        rw [heap_alloc_new]
      have hfit : 0 + (xs.map (Value.int .u8)).length ≤ (madeCells (Value.int .u8 0).cells n).toList.length := by
        have hl := HB.out.len
        simp [size_madeCells]
        omega
      have hcell : ∀ j v, (xs.map (Value.int .u8))[j]? = some v → (w.alloc (.cells (madeCells (Value.int .u8 0).cells n) 5)).cell? (x.add j) = some v := by
        intro j v hv
        have hl := HB.out.len
        have hj : j < n := by
          have := (List.getElem?_eq_some_iff.1 hv).1
          simpa [hl] using this
        obtain ⟨b, o, e, hc⟩ := HB.out.cells (by omega)
        obtain rfl := Option.some.inj e
        rw [Addr.add_lit, Lib.cell?_alloc_marked _ (hc j hj)]
        rw [← hv]
        simp [List.getD, show j < xs.length by omega]
      have HG := hid hg
      have HF := hid hfit
      have HC := hid hcell
      clear hg hfit hcell
      generalize hM : (madeCells (Value.int .u8 0).cells n).toList = M at HG HF
      clear hM
      go_upto_region 9 with (fail)
      go_wp2_with (refine wpList_copy_splice rfl _ _ 22 22 rfl 5 Try.underlying22 (by kernel_rfl) _ _ _ _ _ _ rfl rfl w.heap.size 0 M 5 HG.out (xs.map (Value.int .u8)) (by rw [List.length_map, HB.out.len]; exact (Nat.min_self n).symm) (fun _ => ⟨rfl, x, rfl, HC.out⟩) HF.out (ints_oneCell _ _) w.heap.size w ((Below.refl _ _).alloc (Nat.le_refl _) _) (Nat.le_refl _) ?_)
      intro w2 HG2 hB2
      have HB2 := hid hB2
      clear hB2
      go_wp2_with fail
      go_meet
      case rel =>
        refine ⟨some ⟨w.heap.size, 0, none⟩, n, rfl, Nat.le_refl _, hid (fun e => by cases e), hid ?_, HB2⟩
        have hl := HB.out.len
        refine bs_of_row hl HB.out.rng HG2.out (fun i hi => ?_)
        simp [splice, List.getD, List.getElem?_append_left, hl, hi]
  case rest =>
    obtain ⟨a', c', rfl, hnc', HZ', HBT, HBL⟩ := hcut
    have hmk2 : ∀ w : World, (Instr.makeSlice 22 (.int .i64 0) (.int .i64 ((n : Int) + (n1 : Int)))).run Try.prog w = .ok (.slice (some ⟨w.heap.size, 0, none⟩) 0 (n + n1)) (w.alloc (.cells (madeCells (Value.int .u8 0).cells (n + n1)) 5)) := by
      intro w
      have := run_make (P := Try.prog) w 22 5 i5 (.int .u8 0) Try.underlying22 hi hi0 .i64 .i64 0 (n + n1) (by omega) (by omega) (by rw [hi2]; omega) (by omega)
      rw [hi1] at this
      rw [show ((n : Int) + (n1 : Int)).toNat = n + n1 from by omega] at this
      simpa using this
    have hown := World.ownsRow_made (base := wc.heap.size) (e := 5) (size := 1) wc (madeCells (Value.int .u8 0).cells (n + n1)) (n + n1) (Nat.le_refl _) (by unfold maxLen; omega) (by rw [size_madeCells]; omega)
    have HW := hid hown
    clear hown
    have hc1 : ∀ ad, a' = some ad → ∀ j u, (xs.map (Value.int .u8))[j]? = some u → (wc.alloc (.cells (madeCells (Value.int .u8 0).cells (n + n1)) 5)).cell? (ad.add j) = some u := by
      intro ad had j v hv
      have hl := HBT.out.len
      have hj : j < n := by
        have := (List.getElem?_eq_some_iff.1 hv).1
        simpa [hl] using this
      obtain ⟨b, o, e, hc⟩ := HBT.out.cells (by omega)
      rw [had] at e
      obtain rfl := Option.some.inj e
      rw [Addr.add_lit, Lib.cell?_alloc_marked _ (hc j hj)]
      rw [← hv]
      simp [List.getD, show j < xs.length by omega]
    have HC1 := hid hc1
    clear hc1
    go_wp2_with (at_builtin; refine wpList_append_fits_any _ rfl _ _ 22 rfl wc.heap.size 5 i5 1 Try.underlying22 hi hi1 wc.heap.size 0 (n + n1) [] rfl HW.out a' n c' (xs.map (Value.int .u8)) rfl (by rw [List.length_map, HBT.out.len]; omega) HZ'.out HC1.out (ints_oneCell _ _) (by omega) ?_)
    intro w4 hown4 hgr4
    have HO4 := hid hown4
    have HBL4 := hid (Below.grown ((Below.refl wc.heap.size wc).alloc (Nat.le_refl _) _) hgr4 (by simp) (by intro k hk; simp at hk; omega))
    clear hown4 hgr4 HW HC1
    have HT4 := hid (HB1.out.below (HBL.out.trans (HBL4.out.mono HBL.out.size)))
    have hc2 : ∀ ad, a1 = some ad → ∀ j u, (ys.map (Value.int .u8))[j]? = some u → w4.cell? (ad.add j) = some u := by
      intro ad had j v hv
      have hl := HT4.out.len
      have hj : j < n1 := by
        have := (List.getElem?_eq_some_iff.1 hv).1
        simpa [hl] using this
      obtain ⟨b, o, e, hc⟩ := HT4.out.cells (by omega)
      rw [had] at e
      obtain rfl := Option.some.inj e
      rw [Addr.add_lit, hc j hj]
      rw [← hv]
      simp [List.getD, show j < ys.length by omega]
    have HC2 := hid hc2
    clear hc2
    go_wp2_with (at_builtin; refine wpList_append_fits_any _ rfl _ _ 22 rfl wc.heap.size 5 i5 1 Try.underlying22 hi hi1 wc.heap.size n (n + n1) (xs.map (Value.int .u8)) rfl HO4.out a1 n1 c1 (ys.map (Value.int .u8)) rfl (by rw [List.length_map, HB1.out.len]; omega) HZ1.out HC2.out (ints_oneCell _ _) (by omega) ?_)
    intro w5 hown5 hgr5
    have HBL5 := hid (Below.grown HBL4.out hgr5 HBL4.out.size (by intro k hk; simp at hk; omega))
    have hown5' : w5.ownsRow wc.heap.size 5 1 (.slice (some ⟨wc.heap.size, 0, none⟩) (n + n1) (n + n1)) (n + n1) ((xs ++ ys).map (Value.int .u8)) := by simpa using hown5
    obtain ⟨g, cap, hgc, hcap, hbs⟩ := own_bs hown5' (by simp) (fun z hz => by
      rcases List.mem_append.1 hz with hz | hz
      · exact HB.out.rng z hz
      · exact HB1.out.rng z hz)
    simp at hgc
    obtain ⟨rfl, rfl⟩ := hgc
    have HJ := hid hbs
    have HX5 := hid (HBT.out.below HBL5.out)
    have HBW5 := hid (HBL.out.trans (HBL5.out.mono HBL.out.size))
    have HY5 := hid (HB1.out.below HBW5.out)
    clear hown5 hgr5 hown5' hbs HO4 HBL4 HT4 HC2 HBL5 hmk hmk2 hcap
    generalize wc.heap.size = g at *
    have hlx := HX5.out.len
    have hly := HY5.out.len
    have HLX := hid hlx
    have HLY := hid hly
    clear hlx hly
    by_cases hm : xs.take 16 = markZ
    · have hj := take_app xs ys hm
      have h16 := len_of_mark hm
      rw [HLX.out] at h16
      have H6 := match_yes a' n c' 0 mark xs w5 HX5.out (by omega) (by decide) (by decide) ((ma_mark xs).2 hm)
      rw [show ((0 : Nat) : Int) = 0 from rfl] at H6
      have H6 := hid H6
      have HM := hid hm
      have HMJ := hid hj
      clear hm hj
      go_wp2_with fail
      refine H6.out.mono ?_
      rintro e w' ⟨rfl, q, rfl⟩
      have H6' := match_yes (some ⟨g, 0, none⟩) (n + n1) (n + n1) 0 mark (xs ++ ys) (w5.drewN q) (HJ.out.drewN q) (by omega) (by decide) (by decide) ((ma_mark _).2 HMJ.out)
      rw [show ((0 : Nat) : Int) = 0 from rfl] at H6'
      have H6' := hid H6'
      go_wp2_with fail
      refine H6'.out.mono ?_
      rintro e w' ⟨rfl, q', rfl⟩
      have HX6 := hid (HX5.out.drewN (q + q'))
      have HY6 := hid (HY5.out.drewN (q + q'))
      have HJ6 := hid (HJ.out.drewN (q + q'))
      have HBW6 := hid (below_drewN HBW5.out (q + q'))
      clear HX5 HY5 HJ HBW5 H6 H6'
      go_wp2_with fail
      generalize w5.drewN (q + q') = w6 at *
      refine (zz_yes a' n c' xs w6 HX6.out hnc' (by omega) HM.out).mono ?_
      rintro e w7 ⟨g1, cap1, rfl, hc1, hb1, hbl7⟩
      have HX7 := hid (HX6.out.below hbl7)
      have HY7 := hid (HY6.out.below hbl7)
      have HJ7 := hid (HJ6.out.below hbl7)
      have HE7 := hid hb1
      have HBW7 := hid (HBW6.out.trans (hbl7.mono HBW6.out.size))
      clear hb1 hbl7 HX6 HY6 HJ6 HBW6
      go_wp2_with fail
      refine (zz_yes (some ⟨g, 0, none⟩) (n + n1) (n + n1) (xs ++ ys) w7 HJ7.out (Nat.le_refl _) (by omega) HMJ.out).mono ?_
      rintro e w8 ⟨g2, cap2, rfl, hc2, hb2, hbl8⟩
      have HX8 := hid (HX7.out.below hbl8)
      have HY8 := hid (HY7.out.below hbl8)
      have HE8 := hid (HE7.out.below hbl8)
      have HBW8 := hid (HBW7.out.trans (hbl8.mono HBW7.out.size))
      rw [drop_app xs ys (by rw [HLX.out]; exact h16)] at hb2
      have HF8 := hid hb2
      clear hb2 hbl8 HX7 HY7 HJ7 HE7 HBW7
      go_wp2_with fail
      refine (brace_yes (some ⟨g1, 0, none⟩) a' (n - 15) cap1 n c' 16 xs w8 HE8.out HX8.out (by omega) h16).mono ?_
      rintro e w9 ⟨rfl, q9, rfl⟩
      go_wp2_with fail
      refine (concat_yes (some ⟨g2, 0, none⟩) (some ⟨g1, 0, none⟩) a1 (n + n1 - 15) cap2 (n - 15) cap1 n1 c1 _ _ (w8.drewN q9) (HF8.out.drewN q9) (HE8.out.drewN q9) (HY8.out.drewN q9) (by omega)).mono ?_
      rintro e w10 ⟨rfl, q10, rfl⟩
      go_wp2
      go_ret
      exact ⟨rfl, below_drewN HBW8.out _⟩
    · have H6 := match_no a' n c' 0 mark xs w5 HX5.out (by omega) (by decide) (by decide) (by omega) (mt (ma_mark xs).1 hm)
      rw [show ((0 : Nat) : Int) = 0 from rfl] at H6
      have H6 := hid H6
      have HM := hid hm
      clear hm
      go_wp2_with fail
      refine H6.out.mono ?_
      rintro e w' ⟨rfl, q, rfl⟩
      by_cases hj : (xs ++ ys).take 16 = markZ
      · have h16 : n < 16 := by
          have := mt (fun h => app_take xs ys h hj) HM.out
          rw [← HLX.out]
          omega
        have hge : ¬ (16 : Int) ≤ (n : Int) := by omega
        have HMJ := hid hj
        clear hj
        have H6' := match_yes (some ⟨g, 0, none⟩) (n + n1) (n + n1) 0 mark (xs ++ ys) (w5.drewN q) (HJ.out.drewN q) (by omega) (by decide) (by decide) ((ma_mark _).2 HMJ.out)
        rw [show ((0 : Nat) : Int) = 0 from rfl] at H6'
        have H6' := hid H6'
        go_wp2_with fail
        refine H6'.out.mono ?_
        rintro e w' ⟨rfl, q', rfl⟩
        have HX6 := hid (HX5.out.drewN (q + q'))
        have HJ6 := hid (HJ.out.drewN (q + q'))
        have HBW6 := hid (below_drewN HBW5.out (q + q'))
        clear HX5 HY5 HJ HBW5 H6 H6'
        go_wp2_with fail
        generalize w5.drewN (q + q') = w6 at *
        refine (zz_no a' n c' xs w6 HX6.out hnc' HM.out).mono ?_
        rintro e w7 ⟨rfl, hbl7⟩
        have HJ7 := hid (HJ6.out.below hbl7)
        have HBW7 := hid (HBW6.out.trans (hbl7.mono HBW6.out.size))
        clear hbl7 HX6 HJ6 HBW6
        go_wp2_with fail
        refine (zz_yes (some ⟨g, 0, none⟩) (n + n1) (n + n1) (xs ++ ys) w7 HJ7.out (Nat.le_refl _) (by omega) HMJ.out).mono ?_
        rintro e w8 ⟨g2, cap2, rfl, hc2, hb2, hbl8⟩
        have HJ8 := hid (HJ7.out.below hbl8)
        have HBW8 := hid (HBW7.out.trans (hbl8.mono HBW7.out.size))
        have HF8 := hid hb2
        have hl16 : 16 ≤ n + n1 := by
          have := len_of_mark HMJ.out
          rw [List.length_append, HLX.out, HLY.out] at this
          exact this
        clear hb2 hbl8 HJ7 HBW7
        go_wp2_with fail
        refine (brace_yes (some ⟨g2, 0, none⟩) (some ⟨g, 0, none⟩) (n + n1 - 15) cap2 (n + n1) (n + n1) 16 (xs ++ ys) w8 HF8.out HJ8.out (by omega) hl16).mono ?_
        rintro e w9 ⟨rfl, q9, rfl⟩
        go_wp2
        go_ret
        exact ⟨rfl, below_drewN HBW8.out q9⟩
      · have HMJ := hid hj
        clear hj
        have H6' := match_no (some ⟨g, 0, none⟩) (n + n1) (n + n1) 0 mark (xs ++ ys) (w5.drewN q) (HJ.out.drewN q) (by omega) (by decide) (by decide) (by omega) (mt (ma_mark _).1 HMJ.out)
        rw [show ((0 : Nat) : Int) = 0 from rfl] at H6'
        have H6' := hid H6'
        go_wp2_with fail
        refine H6'.out.mono ?_
        rintro e w' ⟨rfl, q', rfl⟩
        have HX6 := hid (HX5.out.drewN (q + q'))
        have HJ6 := hid (HJ.out.drewN (q + q'))
        have HBW6 := hid (below_drewN HBW5.out (q + q'))
        clear HX5 HY5 HJ HBW5 H6 H6'
        go_wp2_with fail
        generalize w5.drewN (q + q') = w6 at *
        refine (zz_no a' n c' xs w6 HX6.out hnc' HM.out).mono ?_
        rintro e w7 ⟨rfl, hbl7⟩
        have HJ7 := hid (HJ6.out.below hbl7)
        have HBW7 := hid (HBW6.out.trans (hbl7.mono HBW6.out.size))
        clear hbl7 HX6 HJ6 HBW6
        go_wp2_with fail
        refine (zz_no (some ⟨g, 0, none⟩) (n + n1) (n + n1) (xs ++ ys) w7 HJ7.out (Nat.le_refl _) HMJ.out).mono ?_
        rintro e w8 ⟨rfl, hbl8⟩
        have HBW8 := hid (HBW7.out.trans (hbl8.mono HBW7.out.size))
        clear hbl8 HJ7 HBW7
        go_wp2
        all_goals
          go_ret
          exact ⟨rfl, HBW8.out⟩
end Go.Proofs.Qxb6619289a
