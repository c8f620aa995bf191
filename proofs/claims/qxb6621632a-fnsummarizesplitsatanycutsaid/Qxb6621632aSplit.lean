import Derived.Test.Qxb6621632aVerd
namespace Go.Proofs.Qxb6621632a
open Go.RowKit

/-- the summary's box, three cells -/
def Box (w : World) (g : Nat) (e f n : Nat) : Prop := w.heap[g]? = some (.cells #[.int .i64 (e : Int), .int .i64 (f : Int), .int .i64 (n : Int)] 27 (0, 0))

theorem Box.below {w w' : World} {g e f n B : Nat} (h : Box w g e f n) (hb : Below B w w') (hg : g < B) : Box w' g e f n := by
  unfold Box at h ⊢
  rw [hb.block g hg]
  exact h

theorem Vs.take {w : World} {a : Option Addr} {n : Nat} {ss : List ByteArray} (h : Vs w a n ss) (k : Nat) (hk : k ≤ n) : Vs w a k (ss.take k) :=
  ⟨by rw [List.length_take, h.len]; omega, fun h0 => by
    obtain ⟨b, o, e, hc⟩ := h.cells (by omega)
    refine ⟨b, o, e, fun i hi j hj => ?_⟩
    rw [hc i (by omega) j hj]
    simp [List.getD, hi]⟩

theorem Vs.drop {w : World} {b o n : Nat} {ss : List ByteArray} (h : Vs w (some ⟨b, o, none⟩) n ss) (k o' : Nat) (hk : k ≤ n) (ho : k < n → o' = o + k * 4) : Vs w (some ⟨b, o', none⟩) (n - k) (ss.drop k) :=
  ⟨by rw [List.length_drop, h.len], fun h0 => by
    obtain ⟨b2, o2, e, hc⟩ := h.cells (by omega)
    obtain rfl := ho (by omega)
    simp at e
    obtain ⟨rfl, rfl⟩ := e
    refine ⟨b, o + k * 4, rfl, fun i hi j hj => ?_⟩
    have := hc (k + i) (by omega) j hj
    rw [show o + k * 4 + i * 4 + j = o + (k + i) * 4 + j from by omega, this]
    simp [List.getD, List.getElem?_drop]⟩

set_option maxHeartbeats 4000000 in
set_option maxRecDepth 100000 in
theorem split_in (a : Option Addr) (n c k : Nat) (ss : List ByteArray) (w : World) (hn : n ≤ 65536) (hz : Ss w a n ss) (ha : a = none → n = 0) (hk : k ≤ n) :
    Calls Try.prog 5 #[.slice a n c, .int .i64 k] w fun e w' => e = .returned (.bool true) ∧ Below w.heap.size w w' := by
  have H13 := hid (size5_any a n c k ss w (by omega) hz)
  have H8 := hid (fit_any a n c ⟨#[]⟩ ss w hn hz)
  have e1 : decide ((k : Int) < 0) = false := by simp
  have e2 : ¬ (n : Int) < (k : Int) := by omega
  have HZ := hid hz
  have HA := hid ha
  clear hz ha
  go_enter Try.func5, Try.ntmps5
  go_wp2_with fail
  refine H13.out.mono ?_
  rintro e w' ⟨⟨bb, rfl⟩, rfl⟩
  cases bb
  · go_wp2
    go_ret
    exact ⟨rfl, Below.refl _ _⟩
  go_wp2_with fail
  refine H8.out.mono ?_
  rintro e w'' ⟨⟨bb, rfl⟩, rfl⟩
  cases bb
  · go_wp2
    go_ret
    exact ⟨rfl, Below.refl _ _⟩
  rename World => w
  go_wp2_with fail
  refine (verd_all a n c ss w hn HZ.out HA.out).mono ?_
  rintro e w1 ⟨a1, rfl, hv1, ha1, hb1⟩
  have HV1 := hid hv1
  have HB1 := hid hb1
  have HA1 := hid ha1
  clear hv1 hb1 ha1 H13 H8
  go_wp2_with fail
  refine (sum_any a1 n n ss w1 (by omega) HV1.out).mono ?_
  rintro e w2 ⟨rfl, hb2⟩
  have HV2 := hid (HV1.out.below hb2)
  have HB2 := hid (HB1.out.trans (hb2.mono HB1.out.size))
  clear hb2 HB1 HV1
  obtain ⟨W3, hW3⟩ : ∃ W3, W3 = w2.alloc (.cells #[.int .i64 (cE ss : Int), .int .i64 (cW ss : Int), .int .i64 (cN ss : Int)] 27) := ⟨_, rfl⟩
  have hb23 : Below w2.heap.size w2 W3 := by rw [hW3]; exact (Below.refl _ _).alloc (Nat.le_refl _) _
  have HV3 := hid (HV2.out.below hb23)
  have HB3 := hid (HB2.out.trans (hb23.mono HB2.out.size))
  have HX3 : Hid (Box W3 w2.heap.size (cE ss) (cW ss) (cN ss)) := hid (by unfold Box; rw [hW3, heap_alloc_new])
  have HL3 : Hid (w2.heap.size < W3.heap.size) := hid (by rw [hW3]; simp)
  have HW3 := hid hW3
  have HL := hid HZ.out.len
  clear hb23 hW3 HV2 HB2
  have H9L : Hid (∀ c', Calls Try.prog 9 #[.slice a1 k c'] W3 fun e w' => e = .returned (.agg #[.int .i64 (cE (ss.take k) : Int), .int .i64 (cW (ss.take k) : Int), .int .i64 (cN (ss.take k) : Int)]) ∧ Below W3.heap.size W3 w') := hid (fun c' => sum_any a1 k c' _ W3 (by omega) (HV3.out.take k hk))
  have H9R : Hid (∀ (m : Nat) (W : World) (aR : Option Addr) (c' : Nat), Vs W aR m (ss.drop k) → Calls Try.prog 9 #[.slice aR m c'] W fun e w' => e = .returned (.agg #[.int .i64 (cE (ss.drop k) : Int), .int .i64 (cW (ss.drop k) : Int), .int .i64 (cN (ss.drop k) : Int)]) ∧ Below W.heap.size W w') := hid (fun m W aR c' h => sum_any aR m c' _ W (by have := h.len; rw [List.length_drop, HL.out] at this; omega) h)
  have te : cE ss = cE (ss.take k) + cE (ss.drop k) := by rw [← cE_app, List.take_append_drop]
  have tw : cW ss = cW (ss.take k) + cW (ss.drop k) := by rw [← cW_app, List.take_append_drop]
  have tn : cN ss = cN (ss.take k) + cN (ss.drop k) := by rw [← cN_app, List.take_append_drop]
  have tk := cK_sum ss
  have ke := cE_le ss
  have kw := cW_le ss
  have kn := cN_le ss
  rw [HL.out] at ke kw kn
  have HTE := hid te
  have HTW := hid tw
  have HTN := hid tn
  have HTK := hid tk
  clear te tw tn tk
  generalize cE ss = e at *
  generalize cW ss = f at *
  generalize cN ss = g at *
  generalize cE (ss.take k) = eL at *
  generalize cW (ss.take k) = fL at *
  generalize cN (ss.take k) = gL at *
  generalize cE (ss.drop k) = eR at *
  generalize cW (ss.drop k) = fR at *
  generalize cN (ss.drop k) = gR at *
  have hcase : (n = 0 ∧ k = 0) ∨ (0 < n ∧ n = k ∧ ∃ b o, a1 = some ⟨b, o, none⟩) ∨ (0 < n ∧ ¬ n = k ∧ ∃ b o, a1 = some ⟨b, o, none⟩) := by
    by_cases h0 : n = 0
    · exact .inl ⟨h0, by omega⟩
    · obtain ⟨b, o, e, _⟩ := HV3.out.cells (by omega)
      by_cases h1 : n = k
      · exact .inr (.inl ⟨by omega, h1, b, o, e⟩)
      · exact .inr (.inr ⟨by omega, h1, b, o, e⟩)
  have HR : Hid (∀ W, Below W3.heap.size W3 W → (n = 0 → k = 0 → Vs W a1 0 (ss.drop k)) ∧ (∀ b o, a1 = some ⟨b, o, none⟩ → n = k → Vs W a1 0 (ss.drop k)) ∧ (∀ b o, a1 = some ⟨b, o, none⟩ → Vs W (some ⟨b, o + k * 4, none⟩) (n - k) (ss.drop k))) := hid (fun W hb => by
    have hv := HV3.out.below hb
    refine ⟨?_, ?_, ?_⟩
    · rintro rfl rfl
      rw [List.drop_zero]
      exact hv
    · rintro b o rfl rfl
      have := hv.drop n o (Nat.le_refl _) (fun h => absurd h (Nat.lt_irrefl _))
      rw [Nat.sub_self] at this
      exact this
    · rintro b o rfl
      exact hv.drop k (o + k * 4) hk (fun _ => rfl))
  rcases hcase with ⟨rfl, rfl⟩ | ⟨h0, rfl, b, o, rfl⟩ | ⟨h0, h1, b, o, rfl⟩
  · cases a1 with
    | none =>
      go_wp2_with fail
      rw [← HW3.out]
      refine (H9L.out _).mono ?_
      rintro e4 w4 ⟨rfl, hb4⟩
      have hb4' : Below W3.heap.size W3 (w4.alloc (.cells #[.int .i64 (eL : Int), .int .i64 (fL : Int), .int .i64 (gL : Int)] 27)) := hb4.alloc hb4.size _
      have HX4 : Hid (Box (w4.alloc (.cells #[.int .i64 (eL : Int), .int .i64 (fL : Int), .int .i64 (gL : Int)] 27)) w4.heap.size eL fL gL) := hid (by unfold Box; rw [heap_alloc_new])
      have HX3' := hid (HX3.out.below hb4' HL3.out)
      have HB4 := hid hb4'
      have HL4 : Hid (w2.heap.size < w4.heap.size) := hid (Nat.lt_of_lt_of_le HL3.out hb4.size)
      clear hb4 hb4'
      go_wp2_with fail
      refine (H9R.out 0 _ _ _ ((HR.out _ HB4.out).1 (by simp) (by simp))).mono ?_
      rintro e5 w5 ⟨rfl, hb5⟩
      have hs5 : w4.heap.size + 1 ≤ w5.heap.size := by
        have := hb5.size
        rw [World.size_alloc] at this
        exact this
      have hx3 := HX3'.out.below hb5 (by have := HL4.out; rw [World.size_alloc]; omega)
      have hx4 := HX4.out.below hb5 (by rw [World.size_alloc]; omega)
      have l3 : w2.heap.size < w5.heap.size := by have := HL4.out; omega
      have l4 : w4.heap.size < w5.heap.size := by omega
      have HB5 := hid ((HB3.out.trans (HB4.out.mono HB3.out.size)).trans (hb5.mono (Nat.le_trans HB3.out.size HB4.out.size)))
      clear hb5 HX4 HX3' HB4 HL4 H9L H9R HR hs5
      have HSS := hid (HZ.out.below (HB5.out.alloc HB5.out.size (.cells #[.int .i64 (eR : Int), .int .i64 (fR : Int), .int .i64 (gR : Int)] 27)))
      have b0 := cell_of_row _ _ 0 _ _ _ hx3
      have b1 := cell_of_row _ _ 1 _ _ _ hx3
      have b2 := cell_of_row _ _ 2 _ _ _ hx3
      have c0 := cell_of_row _ _ 0 _ _ _ hx4
      have c1 := cell_of_row _ _ 1 _ _ _ hx4
      have c2 := cell_of_row _ _ 2 _ _ _ hx4
      simp at b0 b1 b2 c0 c1 c2
      have HBB := hid (And.intro b0 (And.intro b1 (And.intro b2 (And.intro c0 (And.intro c1 c2)))))
      clear b0 b1 b2 c0 c1 c2 hx3 hx4
      go_wp2_with fail
      go_loop [9, 10] (fun t i => ∃ j x : Nat, j ≤ 0 ∧ x ≤ j ∧ i = .int .i64 j ∧ t = .int .i64 x ∧ Hid (x = cK (ss.take j))) (fun _ i => 0 - (intOf i).toNat)
      case atStart => exact ⟨0, 0, Nat.zero_le _, Nat.zero_le _, rfl, rfl, rfl⟩
      case round =>
        obtain ⟨j, x, hj, hxj, rfl, rfl, HX⟩ := hrel
        by_cases hlt : j < 0
        · exact absurd hlt (Nat.not_lt_zero _)
        · obtain ⟨b0, b1, b2, c0, c1, c2⟩ := HBB.out
          have hx := HX.out
          rw [List.take_of_length_le (by rw [HL.out]; omega), ← HTK.out] at hx
          have te := HTE.out
          have tw := HTW.out
          have tn := HTN.out
          have t0 : ((e : Int) == (eL : Int) + (eR : Int)) = true := beq_iff_eq.2 (by omega)
          have t1 : ((f : Int) == (fL : Int) + (fR : Int)) = true := beq_iff_eq.2 (by omega)
          have t2 : ((g : Int) == (gL : Int) + (gR : Int)) = true := beq_iff_eq.2 (by omega)
          have t3 : ((e : Int) + (f : Int) + (g : Int) == (x : Int)) = true := beq_iff_eq.2 (by omega)
          have y0 : eL + eR ≤ 65536 := by omega
          have y1 : fL + fR ≤ 65536 := by omega
          have y2 : gL + gR ≤ 65536 := by omega
          have y3 : e + f + g ≤ 65536 := by omega
          clear hx te tw tn
          go_wp2
          go_ret
          exact ⟨rfl, HB5.out.alloc HB5.out.size _⟩
    | some x =>
      go_wp2_with fail
      rw [← HW3.out]
      refine (H9L.out _).mono ?_
      rintro e4 w4 ⟨rfl, hb4⟩
      have hb4' : Below W3.heap.size W3 (w4.alloc (.cells #[.int .i64 (eL : Int), .int .i64 (fL : Int), .int .i64 (gL : Int)] 27)) := hb4.alloc hb4.size _
      have HX4 : Hid (Box (w4.alloc (.cells #[.int .i64 (eL : Int), .int .i64 (fL : Int), .int .i64 (gL : Int)] 27)) w4.heap.size eL fL gL) := hid (by unfold Box; rw [heap_alloc_new])
      have HX3' := hid (HX3.out.below hb4' HL3.out)
      have HB4 := hid hb4'
      have HL4 : Hid (w2.heap.size < w4.heap.size) := hid (Nat.lt_of_lt_of_le HL3.out hb4.size)
      clear hb4 hb4'
      go_wp2_with fail
      refine (H9R.out 0 _ _ _ ((HR.out _ HB4.out).1 (by simp) (by simp))).mono ?_
      rintro e5 w5 ⟨rfl, hb5⟩
      have hs5 : w4.heap.size + 1 ≤ w5.heap.size := by
        have := hb5.size
        rw [World.size_alloc] at this
        exact this
      have hx3 := HX3'.out.below hb5 (by have := HL4.out; rw [World.size_alloc]; omega)
      have hx4 := HX4.out.below hb5 (by rw [World.size_alloc]; omega)
      have l3 : w2.heap.size < w5.heap.size := by have := HL4.out; omega
      have l4 : w4.heap.size < w5.heap.size := by omega
      have HB5 := hid ((HB3.out.trans (HB4.out.mono HB3.out.size)).trans (hb5.mono (Nat.le_trans HB3.out.size HB4.out.size)))
      clear hb5 HX4 HX3' HB4 HL4 H9L H9R HR hs5
      have HSS := hid (HZ.out.below (HB5.out.alloc HB5.out.size (.cells #[.int .i64 (eR : Int), .int .i64 (fR : Int), .int .i64 (gR : Int)] 27)))
      have b0 := cell_of_row _ _ 0 _ _ _ hx3
      have b1 := cell_of_row _ _ 1 _ _ _ hx3
      have b2 := cell_of_row _ _ 2 _ _ _ hx3
      have c0 := cell_of_row _ _ 0 _ _ _ hx4
      have c1 := cell_of_row _ _ 1 _ _ _ hx4
      have c2 := cell_of_row _ _ 2 _ _ _ hx4
      simp at b0 b1 b2 c0 c1 c2
      have HBB := hid (And.intro b0 (And.intro b1 (And.intro b2 (And.intro c0 (And.intro c1 c2)))))
      clear b0 b1 b2 c0 c1 c2 hx3 hx4
      go_wp2_with fail
      go_loop [9, 10] (fun t i => ∃ j x : Nat, j ≤ 0 ∧ x ≤ j ∧ i = .int .i64 j ∧ t = .int .i64 x ∧ Hid (x = cK (ss.take j))) (fun _ i => 0 - (intOf i).toNat)
      case atStart => exact ⟨0, 0, Nat.zero_le _, Nat.zero_le _, rfl, rfl, rfl⟩
      case round =>
        obtain ⟨j, x, hj, hxj, rfl, rfl, HX⟩ := hrel
        by_cases hlt : j < 0
        · exact absurd hlt (Nat.not_lt_zero _)
        · obtain ⟨b0, b1, b2, c0, c1, c2⟩ := HBB.out
          have hx := HX.out
          rw [List.take_of_length_le (by rw [HL.out]; omega), ← HTK.out] at hx
          have te := HTE.out
          have tw := HTW.out
          have tn := HTN.out
          have t0 : ((e : Int) == (eL : Int) + (eR : Int)) = true := beq_iff_eq.2 (by omega)
          have t1 : ((f : Int) == (fL : Int) + (fR : Int)) = true := beq_iff_eq.2 (by omega)
          have t2 : ((g : Int) == (gL : Int) + (gR : Int)) = true := beq_iff_eq.2 (by omega)
          have t3 : ((e : Int) + (f : Int) + (g : Int) == (x : Int)) = true := beq_iff_eq.2 (by omega)
          have y0 : eL + eR ≤ 65536 := by omega
          have y1 : fL + fR ≤ 65536 := by omega
          have y2 : gL + gR ≤ 65536 := by omega
          have y3 : e + f + g ≤ 65536 := by omega
          clear hx te tw tn
          go_wp2
          go_ret
          exact ⟨rfl, HB5.out.alloc HB5.out.size _⟩
  · go_wp2_with fail
    rw [← HW3.out]
    refine (H9L.out _).mono ?_
    rintro e4 w4 ⟨rfl, hb4⟩
    have hb4' : Below W3.heap.size W3 (w4.alloc (.cells #[.int .i64 (eL : Int), .int .i64 (fL : Int), .int .i64 (gL : Int)] 27)) := hb4.alloc hb4.size _
    have HX4 : Hid (Box (w4.alloc (.cells #[.int .i64 (eL : Int), .int .i64 (fL : Int), .int .i64 (gL : Int)] 27)) w4.heap.size eL fL gL) := hid (by unfold Box; rw [heap_alloc_new])
    have HX3' := hid (HX3.out.below hb4' HL3.out)
    have HB4 := hid hb4'
    have HL4 : Hid (w2.heap.size < w4.heap.size) := hid (Nat.lt_of_lt_of_le HL3.out hb4.size)
    clear hb4 hb4'
    go_wp2_with fail
    refine (H9R.out 0 _ _ _ ((HR.out _ HB4.out).2.1 b o (by simp) (by simp))).mono ?_
    rintro e5 w5 ⟨rfl, hb5⟩
    have hs5 : w4.heap.size + 1 ≤ w5.heap.size := by
      have := hb5.size
      rw [World.size_alloc] at this
      exact this
    have hx3 := HX3'.out.below hb5 (by have := HL4.out; rw [World.size_alloc]; omega)
    have hx4 := HX4.out.below hb5 (by rw [World.size_alloc]; omega)
    have l3 : w2.heap.size < w5.heap.size := by have := HL4.out; omega
    have l4 : w4.heap.size < w5.heap.size := by omega
    have HB5 := hid ((HB3.out.trans (HB4.out.mono HB3.out.size)).trans (hb5.mono (Nat.le_trans HB3.out.size HB4.out.size)))
    clear hb5 HX4 HX3' HB4 HL4 H9L H9R HR hs5
    have HSS := hid (HZ.out.below (HB5.out.alloc HB5.out.size (.cells #[.int .i64 (eR : Int), .int .i64 (fR : Int), .int .i64 (gR : Int)] 27)))
    have b0 := cell_of_row _ _ 0 _ _ _ hx3
    have b1 := cell_of_row _ _ 1 _ _ _ hx3
    have b2 := cell_of_row _ _ 2 _ _ _ hx3
    have c0 := cell_of_row _ _ 0 _ _ _ hx4
    have c1 := cell_of_row _ _ 1 _ _ _ hx4
    have c2 := cell_of_row _ _ 2 _ _ _ hx4
    simp at b0 b1 b2 c0 c1 c2
    have HBB := hid (And.intro b0 (And.intro b1 (And.intro b2 (And.intro c0 (And.intro c1 c2)))))
    clear b0 b1 b2 c0 c1 c2 hx3 hx4
    go_wp2_with fail
    go_loop [9, 10] (fun t i => ∃ j x : Nat, j ≤ n ∧ x ≤ j ∧ i = .int .i64 j ∧ t = .int .i64 x ∧ Hid (x = cK (ss.take j))) (fun _ i => n - (intOf i).toNat)
    case atStart => exact ⟨0, 0, Nat.zero_le _, Nat.zero_le _, rfl, rfl, rfl⟩
    case round =>
      obtain ⟨j, x, hj, hxj, rfl, rfl, HX⟩ := hrel
      by_cases hlt : j < n
      · obtain ⟨b', o', rfl, hc⟩ := HSS.out.cells (by omega)
        have g9 := hc j hlt
        have HTS := hid (take_snoc ss j (by rw [HL.out]; omega))
        have HKS := hid (cK_snoc (ss.take j) (ss.getD j ByteArray.empty))
        rw [← HTS.out] at HKS
        generalize ss.getD j ByteArray.empty = s at *
        have H14 := known_any s (w5.alloc (.cells #[.int .i64 (eR : Int), .int .i64 (fR : Int), .int .i64 (gR : Int)] 27))
        clear hc
        by_cases hks : sevK s = true
        · rw [hks] at H14
          rw [if_pos hks] at HKS
          have H14 := hid H14
          clear hks
          go_wp2_with (go_at_call 14; refine H14.out.mono ?_; rintro e w' ⟨rfl, rfl⟩)
          go_round
          case rel => exact ⟨j + 1, x + 1, by omega, by omega, by go_num, by go_num, hid (by rw [HKS.out, ← HX.out])⟩
          case measure => (simp [intOf]; omega)
        · rw [show sevK s = false from by simpa using hks] at H14
          rw [if_neg hks] at HKS
          have H14 := hid H14
          clear hks
          go_wp2_with (go_at_call 14; refine H14.out.mono ?_; rintro e w' ⟨rfl, rfl⟩)
          go_round
          case rel => exact ⟨j + 1, x, by omega, by omega, by go_num, rfl, hid (by rw [HKS.out, ← HX.out]; rfl)⟩
          case measure => (simp [intOf]; omega)
      · obtain ⟨b0, b1, b2, c0, c1, c2⟩ := HBB.out
        have hx := HX.out
        rw [List.take_of_length_le (by rw [HL.out]; omega), ← HTK.out] at hx
        have te := HTE.out
        have tw := HTW.out
        have tn := HTN.out
        have t0 : ((e : Int) == (eL : Int) + (eR : Int)) = true := beq_iff_eq.2 (by omega)
        have t1 : ((f : Int) == (fL : Int) + (fR : Int)) = true := beq_iff_eq.2 (by omega)
        have t2 : ((g : Int) == (gL : Int) + (gR : Int)) = true := beq_iff_eq.2 (by omega)
        have t3 : ((e : Int) + (f : Int) + (g : Int) == (x : Int)) = true := beq_iff_eq.2 (by omega)
        have y0 : eL + eR ≤ 65536 := by omega
        have y1 : fL + fR ≤ 65536 := by omega
        have y2 : gL + gR ≤ 65536 := by omega
        have y3 : e + f + g ≤ 65536 := by omega
        clear hx te tw tn
        go_wp2
        go_ret
        exact ⟨rfl, HB5.out.alloc HB5.out.size _⟩
  · go_wp2_with fail
    rw [← HW3.out]
    refine (H9L.out _).mono ?_
    rintro e4 w4 ⟨rfl, hb4⟩
    have hb4' : Below W3.heap.size W3 (w4.alloc (.cells #[.int .i64 (eL : Int), .int .i64 (fL : Int), .int .i64 (gL : Int)] 27)) := hb4.alloc hb4.size _
    have HX4 : Hid (Box (w4.alloc (.cells #[.int .i64 (eL : Int), .int .i64 (fL : Int), .int .i64 (gL : Int)] 27)) w4.heap.size eL fL gL) := hid (by unfold Box; rw [heap_alloc_new])
    have HX3' := hid (HX3.out.below hb4' HL3.out)
    have HB4 := hid hb4'
    have HL4 : Hid (w2.heap.size < w4.heap.size) := hid (Nat.lt_of_lt_of_le HL3.out hb4.size)
    clear hb4 hb4'
    go_wp2_with fail
    refine (H9R.out (n - k) _ _ _ ((HR.out _ HB4.out).2.2 b o (by simp))).mono ?_
    rintro e5 w5 ⟨rfl, hb5⟩
    have hs5 : w4.heap.size + 1 ≤ w5.heap.size := by
      have := hb5.size
      rw [World.size_alloc] at this
      exact this
    have hx3 := HX3'.out.below hb5 (by have := HL4.out; rw [World.size_alloc]; omega)
    have hx4 := HX4.out.below hb5 (by rw [World.size_alloc]; omega)
    have l3 : w2.heap.size < w5.heap.size := by have := HL4.out; omega
    have l4 : w4.heap.size < w5.heap.size := by omega
    have HB5 := hid ((HB3.out.trans (HB4.out.mono HB3.out.size)).trans (hb5.mono (Nat.le_trans HB3.out.size HB4.out.size)))
    clear hb5 HX4 HX3' HB4 HL4 H9L H9R HR hs5
    have HSS := hid (HZ.out.below (HB5.out.alloc HB5.out.size (.cells #[.int .i64 (eR : Int), .int .i64 (fR : Int), .int .i64 (gR : Int)] 27)))
    have b0 := cell_of_row _ _ 0 _ _ _ hx3
    have b1 := cell_of_row _ _ 1 _ _ _ hx3
    have b2 := cell_of_row _ _ 2 _ _ _ hx3
    have c0 := cell_of_row _ _ 0 _ _ _ hx4
    have c1 := cell_of_row _ _ 1 _ _ _ hx4
    have c2 := cell_of_row _ _ 2 _ _ _ hx4
    simp at b0 b1 b2 c0 c1 c2
    have HBB := hid (And.intro b0 (And.intro b1 (And.intro b2 (And.intro c0 (And.intro c1 c2)))))
    clear b0 b1 b2 c0 c1 c2 hx3 hx4
    go_wp2_with fail
    go_loop [9, 10] (fun t i => ∃ j x : Nat, j ≤ n ∧ x ≤ j ∧ i = .int .i64 j ∧ t = .int .i64 x ∧ Hid (x = cK (ss.take j))) (fun _ i => n - (intOf i).toNat)
    case atStart => exact ⟨0, 0, Nat.zero_le _, Nat.zero_le _, rfl, rfl, rfl⟩
    case round =>
      obtain ⟨j, x, hj, hxj, rfl, rfl, HX⟩ := hrel
      by_cases hlt : j < n
      · obtain ⟨b', o', rfl, hc⟩ := HSS.out.cells (by omega)
        have g9 := hc j hlt
        have HTS := hid (take_snoc ss j (by rw [HL.out]; omega))
        have HKS := hid (cK_snoc (ss.take j) (ss.getD j ByteArray.empty))
        rw [← HTS.out] at HKS
        generalize ss.getD j ByteArray.empty = s at *
        have H14 := known_any s (w5.alloc (.cells #[.int .i64 (eR : Int), .int .i64 (fR : Int), .int .i64 (gR : Int)] 27))
        clear hc
        by_cases hks : sevK s = true
        · rw [hks] at H14
          rw [if_pos hks] at HKS
          have H14 := hid H14
          clear hks
          go_wp2_with (go_at_call 14; refine H14.out.mono ?_; rintro e w' ⟨rfl, rfl⟩)
          go_round
          case rel => exact ⟨j + 1, x + 1, by omega, by omega, by go_num, by go_num, hid (by rw [HKS.out, ← HX.out])⟩
          case measure => (simp [intOf]; omega)
        · rw [show sevK s = false from by simpa using hks] at H14
          rw [if_neg hks] at HKS
          have H14 := hid H14
          clear hks
          go_wp2_with (go_at_call 14; refine H14.out.mono ?_; rintro e w' ⟨rfl, rfl⟩)
          go_round
          case rel => exact ⟨j + 1, x, by omega, by omega, by go_num, rfl, hid (by rw [HKS.out, ← HX.out]; rfl)⟩
          case measure => (simp [intOf]; omega)
      · obtain ⟨b0, b1, b2, c0, c1, c2⟩ := HBB.out
        have hx := HX.out
        rw [List.take_of_length_le (by rw [HL.out]; omega), ← HTK.out] at hx
        have te := HTE.out
        have tw := HTW.out
        have tn := HTN.out
        have t0 : ((e : Int) == (eL : Int) + (eR : Int)) = true := beq_iff_eq.2 (by omega)
        have t1 : ((f : Int) == (fL : Int) + (fR : Int)) = true := beq_iff_eq.2 (by omega)
        have t2 : ((g : Int) == (gL : Int) + (gR : Int)) = true := beq_iff_eq.2 (by omega)
        have t3 : ((e : Int) + (f : Int) + (g : Int) == (x : Int)) = true := beq_iff_eq.2 (by omega)
        have y0 : eL + eR ≤ 65536 := by omega
        have y1 : fL + fR ≤ 65536 := by omega
        have y2 : gL + gR ≤ 65536 := by omega
        have y3 : e + f + g ≤ 65536 := by omega
        clear hx te tw tn
        go_wp2
        go_ret
        exact ⟨rfl, HB5.out.alloc HB5.out.size _⟩

set_option maxHeartbeats 1000000 in
set_option maxRecDepth 100000 in
theorem split_out (a : Option Addr) (n c : Nat) (x : Int) (ss : List ByteArray) (w : World) (hn : n ≤ 9223372036854775807) (hz : Ss w a n ss) (h : 65536 < n ∨ x < 0 ∨ (n : Int) < x) :
    Calls Try.prog 5 #[.slice a n c, .int .i64 x] w fun e w' => e = .returned (.bool true) ∧ Below w.heap.size w w' := by
  have H13 := hid (size5_any a n c x ss w hn hz)
  by_cases h1 : 65536 < n
  · clear h hz
    go_enter Try.func5, Try.ntmps5
    go_wp2_with fail
    refine H13.out.mono ?_
    rintro e w' ⟨⟨bb, rfl⟩, rfl⟩
    cases bb
    · go_wp2
      go_ret
      exact ⟨rfl, Below.refl _ _⟩
    go_wp2_with fail
    refine (fit_no _ _ _ _ _ h1).mono ?_
    rintro e w'' ⟨rfl, rfl⟩
    go_wp2
    go_ret
    exact ⟨rfl, Below.refl _ _⟩
  · have H8 := hid (fit_any a n c ⟨#[]⟩ ss w (by omega) hz)
    have hx : x < 0 ∨ (0 ≤ x ∧ (n : Int) < x) := by omega
    clear h hz
    rcases hx with hx | ⟨hx0, hx⟩
    all_goals
      go_enter Try.func5, Try.ntmps5
      go_wp2_with fail
      refine H13.out.mono ?_
      rintro e w' ⟨⟨bb, rfl⟩, rfl⟩
      cases bb
      · go_wp2
        go_ret
        exact ⟨rfl, Below.refl _ _⟩
      go_wp2_with fail
      refine H8.out.mono ?_
      rintro e w'' ⟨⟨bb, rfl⟩, rfl⟩
      cases bb
      · go_wp2
        go_ret
        exact ⟨rfl, Below.refl _ _⟩
      go_wp2
      go_ret
      exact ⟨rfl, Below.refl _ _⟩
end Go.Proofs.Qxb6621632a
