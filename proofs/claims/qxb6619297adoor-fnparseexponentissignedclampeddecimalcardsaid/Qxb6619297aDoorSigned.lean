import Derived.Test.Qxb6619297aDoorParse
namespace Go.Proofs.Qxb6619297aDoor
open Go.RowKit Pl

set_option maxHeartbeats 400000 in
theorem size1_yes (s : ByteArray) (w : World) (h : s.size ≤ 1048576) :
    Calls Tryd.prog 5 #[.string s] w fun e w' => e = .returned (.bool true) ∧ w' = w := by
  have e1 : ¬ (1048576 : Int) < (s.size : Int) := by omega
  go_enter Tryd.func5, Tryd.ntmps5
  go_wp2
  go_ret
  exact ⟨rfl, rfl⟩

set_option maxHeartbeats 400000 in
theorem size1_no (s : ByteArray) (w : World) (h : 1048576 < s.size) :
    Calls Tryd.prog 5 #[.string s] w fun e w' => e = .returned (.bool false) ∧ w' = w := by
  have e1 : (1048576 : Int) < (s.size : Int) := by omega
  go_enter Tryd.func5, Tryd.ntmps5
  go_wp2
  go_ret
  exact ⟨rfl, rfl⟩

set_option maxRecDepth 100000 in
set_option maxHeartbeats 1000000 in
theorem signed_long (s : ByteArray) (w : World) (h : 1048576 < s.size) :
    Calls Tryd.prog 3 #[.string s] w fun e w' => e = .returned (.bool true) ∧ Below w.heap.size w w' := by
  go_enter Tryd.func3, Tryd.ntmps3
  go_wp2_with (go_at_call 5; refine (size1_no _ _ h).mono ?_; rintro e w' ⟨rfl, rfl⟩)
  go_ret
  exact ⟨rfl, Below.refl _ _⟩

theorem S_cons (c : UInt8) (l : List UInt8) : (⟨#[c]⟩ : ByteArray) ++ S l = S (c :: l) := by
  rw [← S_self ((⟨#[c]⟩ : ByteArray) ++ S l)]
  congr 1

theorem S_tail (c : UInt8) (r : List UInt8) : (S (c :: r)).extract 1 (S (c :: r)).size = S r := by
  have h := Lib.extract_data (S (c :: r)) 1 (S (c :: r)).size
  have h2 : ((S (c :: r)).extract 1 (S (c :: r)).size).data.toList = r := by
    rw [h]
    simp [S_list, S_size]
  rw [← S_self ((S (c :: r)).extract 1 (S (c :: r)).size), h2]

theorem other_head (l : List UInt8) (h1 : ∀ r, l ≠ 45 :: r) (h2 : ∀ r, l ≠ 43 :: r) (h : 0 < (S l).size) : (((S l)[0]'h).toNat : Int) ≠ 45 ∧ (((S l)[0]'h).toNat : Int) ≠ 43 := by
  cases l with
  | nil => exact absurd h (by rw [S_size]; simp)
  | cons c r =>
    have e : (S (c :: r))[0]'h = c := rfl
    rw [e]
    constructor
    · intro hc
      exact h1 r (by rw [show c = 45 from UInt8.toNat_inj.1 (by show c.toNat = 45; omega)])
    · intro hc
      exact h2 r (by rw [show c = 43 from UInt8.toNat_inj.1 (by show c.toNat = 43; omega)])

theorem not_dg (c : UInt8) (r : List UInt8) (h : c = 45 ∨ c = 43) : ¬ Dg (S (c :: r)) := by
  rw [dg_iff]
  rintro ⟨_, h2⟩
  rcases h with rfl | rfl <;> simp [isDig] at h2

set_option maxRecDepth 100000 in
set_option maxHeartbeats 4000000 in
theorem signed_minus_yes (r : List UInt8) (w : World) (hs : r.length + 1 ≤ 1048576) (hd : Dg (S r)) (he : EV w) :
    Calls Tryd.prog 3 #[.string (S (45 :: r))] w fun e w' => e = .returned (.bool true) ∧ Below w.heap.size w w' := by
  have hsz : (S (45 :: r)).size = r.length + 1 := S_size _
  have h0 : 0 < (S (45 :: r)).size := by omega
  have hlen : (S (45 :: r)).size ≤ 1048576 := by omega
  have e1 : ¬ (1048576 : Int) < ((S (45 :: r)).size : Int) := by omega
  have g1 : (0 : Int) < ((S (45 :: r)).size : Int) := by omega
  have g2 : ((((S (45 :: r))[0]'h0).toNat : Int) == 45) = true := rfl
  have HT := hid (S_tail 45 r)
  have HM := hid (S_cons 45 (45 :: r))
  have HP := hid (S_cons 43 (45 :: r))
  have H1 := hid (zz_yes (45 :: r) w (by simp; omega) hd he)
  have H2 := hid (fun w : World => zz_no (45 :: 45 :: r) w (by simp; omega) (not_dg 45 r (.inl rfl)))
  have H3 := hid (fun w : World => zz_no (43 :: 45 :: r) w (by simp; omega) (not_dg 45 r (.inl rfl)))
  have H4 := hid (fun w : World => dec_yes (S r) w (by rw [S_size]; omega) hd)
  have hsg : sgn (45 :: r) * (cval 0 (body (45 :: r)) : Int) = -(cval 0 r : Int) := by
    show (-1 : Int) * (cval 0 r : Int) = _
    omega
  have hcl := cval_le r 0 (by omega)
  rw [hsg] at H1
  rw [S_list] at H4
  clear hsg
  generalize cval 0 r = v at *
  clear hsz hs he hd
  generalize hS : S (45 :: r) = s at *
  generalize hS2 : S r = t at *
  clear hS hS2
  go_enter Tryd.func3, Tryd.ntmps3
  go_wp2_with (go_at_call 5; refine (size1_yes _ _ hlen).mono ?_; rintro e w' ⟨rfl, rfl⟩)
  refine H1.out.mono ?_
  rintro e w1 ⟨rfl, hb1⟩
  have HB1 := hid hb1
  clear hb1
  go_wp2_with fail
  rw [HM.out]
  refine (H2.out _).mono ?_
  rintro e w2 ⟨rfl, hb2⟩
  have HB2 := hid (HB1.out.trans (hb2.mono HB1.out.size))
  clear hb2 HB1
  go_wp2_with fail
  rw [HP.out]
  refine (H3.out _).mono ?_
  rintro e w3 ⟨rfl, hb3⟩
  have HB3 := hid (HB2.out.trans (hb3.mono HB2.out.size))
  clear hb3 HB2
  go_wp2_with fail
  rw [HT.out]
  refine (H4.out _).mono ?_
  rintro e w4 ⟨rfl, rfl⟩
  go_wp2_with fail
  go_ret
  exact ⟨rfl, HB3.out⟩

set_option maxRecDepth 100000 in
set_option maxHeartbeats 4000000 in
theorem signed_minus_no (r : List UInt8) (w : World) (hs : r.length + 1 ≤ 1048576) (hd : ¬ Dg (S r)) :
    Calls Tryd.prog 3 #[.string (S (45 :: r))] w fun e w' => e = .returned (.bool true) ∧ Below w.heap.size w w' := by
  have hsz : (S (45 :: r)).size = r.length + 1 := S_size _
  have h0 : 0 < (S (45 :: r)).size := by omega
  have hlen : (S (45 :: r)).size ≤ 1048576 := by omega
  have e1 : ¬ (1048576 : Int) < ((S (45 :: r)).size : Int) := by omega
  have g1 : (0 : Int) < ((S (45 :: r)).size : Int) := by omega
  have g2 : ((((S (45 :: r))[0]'h0).toNat : Int) == 45) = true := rfl
  have HT := hid (S_tail 45 r)
  have HM := hid (S_cons 45 (45 :: r))
  have HP := hid (S_cons 43 (45 :: r))
  have H1 := hid (zz_no (45 :: r) w (by simp; omega) hd)
  have H2 := hid (fun w : World => zz_no (45 :: 45 :: r) w (by simp; omega) (not_dg 45 r (.inl rfl)))
  have H3 := hid (fun w : World => zz_no (43 :: 45 :: r) w (by simp; omega) (not_dg 45 r (.inl rfl)))
  have H4 := hid (fun w : World => dec_no (S r) w (by rw [S_size]; omega) hd)
  clear hsz hs hd
  generalize hS : S (45 :: r) = s at *
  generalize hS2 : S r = t at *
  clear hS hS2
  go_enter Tryd.func3, Tryd.ntmps3
  go_wp2_with (go_at_call 5; refine (size1_yes _ _ hlen).mono ?_; rintro e w' ⟨rfl, rfl⟩)
  refine H1.out.mono ?_
  rintro e w1 ⟨rfl, hb1⟩
  have HB1 := hid hb1
  clear hb1
  go_wp2_with fail
  rw [HM.out]
  refine (H2.out _).mono ?_
  rintro e w2 ⟨rfl, hb2⟩
  have HB2 := hid (HB1.out.trans (hb2.mono HB1.out.size))
  clear hb2 HB1
  go_wp2_with fail
  rw [HP.out]
  refine (H3.out _).mono ?_
  rintro e w3 ⟨rfl, hb3⟩
  have HB3 := hid (HB2.out.trans (hb3.mono HB2.out.size))
  clear hb3 HB2
  go_wp2_with fail
  rw [HT.out]
  refine (H4.out _).mono ?_
  rintro e w4 ⟨rfl, rfl⟩
  go_wp2_with fail
  go_ret
  exact ⟨rfl, HB3.out⟩

set_option maxRecDepth 100000 in
set_option maxHeartbeats 4000000 in
theorem signed_plus_yes (r : List UInt8) (w : World) (hs : r.length + 1 ≤ 1048576) (hd : Dg (S r)) (he : EV w) :
    Calls Tryd.prog 3 #[.string (S (43 :: r))] w fun e w' => e = .returned (.bool true) ∧ Below w.heap.size w w' := by
  have hsz : (S (43 :: r)).size = r.length + 1 := S_size _
  have h0 : 0 < (S (43 :: r)).size := by omega
  have hlen : (S (43 :: r)).size ≤ 1048576 := by omega
  have e1 : ¬ (1048576 : Int) < ((S (43 :: r)).size : Int) := by omega
  have g1 : (0 : Int) < ((S (43 :: r)).size : Int) := by omega
  have g2 : ((((S (43 :: r))[0]'h0).toNat : Int) == 45) = false := rfl
  have g3 : ((((S (43 :: r))[0]'h0).toNat : Int) == 43) = true := rfl
  have HT := hid (S_tail 43 r)
  have HM := hid (S_cons 45 (43 :: r))
  have HP := hid (S_cons 43 (43 :: r))
  have H1 := hid (zz_yes (43 :: r) w (by simp; omega) hd he)
  have H2 := hid (fun w : World => zz_no (45 :: 43 :: r) w (by simp; omega) (not_dg 43 r (.inr rfl)))
  have H3 := hid (fun w : World => zz_no (43 :: 43 :: r) w (by simp; omega) (not_dg 43 r (.inr rfl)))
  have H4 := hid (fun w : World => dec_yes (S r) w (by rw [S_size]; omega) hd)
  have hsg : sgn (43 :: r) * (cval 0 (body (43 :: r)) : Int) = (cval 0 r : Int) := by
    show (1 : Int) * (cval 0 r : Int) = _
    omega
  have hcl := cval_le r 0 (by omega)
  rw [hsg] at H1
  rw [S_list] at H4
  clear hsg
  generalize cval 0 r = v at *
  clear hsz hs he hd
  generalize hS : S (43 :: r) = s at *
  generalize hS2 : S r = t at *
  clear hS hS2
  go_enter Tryd.func3, Tryd.ntmps3
  go_wp2_with (go_at_call 5; refine (size1_yes _ _ hlen).mono ?_; rintro e w' ⟨rfl, rfl⟩)
  refine H1.out.mono ?_
  rintro e w1 ⟨rfl, hb1⟩
  have HB1 := hid hb1
  clear hb1
  go_wp2_with fail
  rw [HM.out]
  refine (H2.out _).mono ?_
  rintro e w2 ⟨rfl, hb2⟩
  have HB2 := hid (HB1.out.trans (hb2.mono HB1.out.size))
  clear hb2 HB1
  go_wp2_with fail
  rw [HP.out]
  refine (H3.out _).mono ?_
  rintro e w3 ⟨rfl, hb3⟩
  have HB3 := hid (HB2.out.trans (hb3.mono HB2.out.size))
  clear hb3 HB2
  go_wp2_with fail
  rw [HT.out]
  refine (H4.out _).mono ?_
  rintro e w4 ⟨rfl, rfl⟩
  go_wp2_with fail
  go_ret
  exact ⟨rfl, HB3.out⟩

set_option maxRecDepth 100000 in
set_option maxHeartbeats 4000000 in
theorem signed_plus_no (r : List UInt8) (w : World) (hs : r.length + 1 ≤ 1048576) (hd : ¬ Dg (S r)) :
    Calls Tryd.prog 3 #[.string (S (43 :: r))] w fun e w' => e = .returned (.bool true) ∧ Below w.heap.size w w' := by
  have hsz : (S (43 :: r)).size = r.length + 1 := S_size _
  have h0 : 0 < (S (43 :: r)).size := by omega
  have hlen : (S (43 :: r)).size ≤ 1048576 := by omega
  have e1 : ¬ (1048576 : Int) < ((S (43 :: r)).size : Int) := by omega
  have g1 : (0 : Int) < ((S (43 :: r)).size : Int) := by omega
  have g2 : ((((S (43 :: r))[0]'h0).toNat : Int) == 45) = false := rfl
  have g3 : ((((S (43 :: r))[0]'h0).toNat : Int) == 43) = true := rfl
  have HT := hid (S_tail 43 r)
  have HM := hid (S_cons 45 (43 :: r))
  have HP := hid (S_cons 43 (43 :: r))
  have H1 := hid (zz_no (43 :: r) w (by simp; omega) hd)
  have H2 := hid (fun w : World => zz_no (45 :: 43 :: r) w (by simp; omega) (not_dg 43 r (.inr rfl)))
  have H3 := hid (fun w : World => zz_no (43 :: 43 :: r) w (by simp; omega) (not_dg 43 r (.inr rfl)))
  have H4 := hid (fun w : World => dec_no (S r) w (by rw [S_size]; omega) hd)
  clear hsz hs hd
  generalize hS : S (43 :: r) = s at *
  generalize hS2 : S r = t at *
  clear hS hS2
  go_enter Tryd.func3, Tryd.ntmps3
  go_wp2_with (go_at_call 5; refine (size1_yes _ _ hlen).mono ?_; rintro e w' ⟨rfl, rfl⟩)
  refine H1.out.mono ?_
  rintro e w1 ⟨rfl, hb1⟩
  have HB1 := hid hb1
  clear hb1
  go_wp2_with fail
  rw [HM.out]
  refine (H2.out _).mono ?_
  rintro e w2 ⟨rfl, hb2⟩
  have HB2 := hid (HB1.out.trans (hb2.mono HB1.out.size))
  clear hb2 HB1
  go_wp2_with fail
  rw [HP.out]
  refine (H3.out _).mono ?_
  rintro e w3 ⟨rfl, hb3⟩
  have HB3 := hid (HB2.out.trans (hb3.mono HB2.out.size))
  clear hb3 HB2
  go_wp2_with fail
  rw [HT.out]
  refine (H4.out _).mono ?_
  rintro e w4 ⟨rfl, rfl⟩
  go_wp2_with fail
  go_ret
  exact ⟨rfl, HB3.out⟩

set_option maxRecDepth 100000 in
set_option maxHeartbeats 4000000 in
theorem unsigned_yes (l : List UInt8) (w : World) (hs : l.length ≤ 1048576) (h1 : ∀ r, l ≠ 45 :: r) (h2 : ∀ r, l ≠ 43 :: r) (hsg : sgn l = 1) (hb : body l = l) (hd : Dg (S l)) (he : EV w) :
    Calls Tryd.prog 3 #[.string (S l)] w fun e w' => e = .returned (.bool true) ∧ Below w.heap.size w w' := by
  have hsz : (S l).size = l.length := S_size _
  have h0 : 0 < (S l).size := hd.1
  have hlen : (S l).size ≤ 1048576 := by omega
  have e1 : ¬ (1048576 : Int) < ((S l).size : Int) := by omega
  have g1 : (0 : Int) < ((S l).size : Int) := by omega
  have g2 : ((((S l)[0]'h0).toNat : Int) == 45) = false := beq_eq_false_iff_ne.2 (other_head l h1 h2 h0).1
  have g3 : ((((S l)[0]'h0).toNat : Int) == 43) = false := beq_eq_false_iff_ne.2 (other_head l h1 h2 h0).2
  have HM := hid (S_cons 45 l)
  have HP := hid (S_cons 43 l)
  have hcl := cval_le l 0 (by omega)
  have H1a := zz_yes l w (by omega) (by rw [hb]; exact hd) he
  rw [hsg, hb, Int.one_mul] at H1a
  have H1 := hid H1a
  have em : sgn (45 :: l) * (cval 0 (body (45 :: l)) : Int) = -(cval 0 l : Int) := by
    show (-1 : Int) * (cval 0 l : Int) = _
    omega
  have ep : sgn (43 :: l) * (cval 0 (body (43 :: l)) : Int) = (cval 0 l : Int) := by
    show (1 : Int) * (cval 0 l : Int) = _
    omega
  have H2 : Hid (∀ w : World, EV w → Calls Tryd.prog 6 #[.string (S (45 :: l))] w fun e w' => e = .returned (.tuple #[.int .i64 (-(cval 0 l : Int)), .bool true]) ∧ Below w.heap.size w w') := hid (fun w he => by
    have := zz_yes (45 :: l) w (by simp; omega) hd he
    rw [em] at this
    exact this)
  have H3 : Hid (∀ w : World, EV w → Calls Tryd.prog 6 #[.string (S (43 :: l))] w fun e w' => e = .returned (.tuple #[.int .i64 (cval 0 l : Int), .bool true]) ∧ Below w.heap.size w w') := hid (fun w he => by
    have := zz_yes (43 :: l) w (by simp; omega) hd he
    rw [ep] at this
    exact this)
  have H4 := hid (fun w : World => dec_yes (S l) w (by rw [S_size]; omega) hd)
  rw [S_list] at H4
  have HE := hid he
  clear H1a em ep he hsz hs h1 h2 hsg hb hd
  generalize cval 0 l = v at *
  generalize hS : S l = s at *
  clear hS
  go_enter Tryd.func3, Tryd.ntmps3
  go_wp2_with (go_at_call 5; refine (size1_yes _ _ hlen).mono ?_; rintro e w' ⟨rfl, rfl⟩)
  refine H1.out.mono ?_
  rintro e w1 ⟨rfl, hb1⟩
  have HB1 := hid hb1
  clear hb1
  go_wp2_with fail
  rw [HM.out]
  refine (H2.out _ (HE.out.below HB1.out)).mono ?_
  rintro e w2 ⟨rfl, hb2⟩
  have HB2 := hid (HB1.out.trans (hb2.mono HB1.out.size))
  clear hb2 HB1
  go_wp2_with fail
  rw [HP.out]
  refine (H3.out _ (HE.out.below HB2.out)).mono ?_
  rintro e w3 ⟨rfl, hb3⟩
  have HB3 := hid (HB2.out.trans (hb3.mono HB2.out.size))
  clear hb3 HB2
  go_wp2_with fail
  refine (H4.out _).mono ?_
  rintro e w4 ⟨rfl, rfl⟩
  go_wp2_with fail
  go_ret
  exact ⟨rfl, HB3.out⟩

set_option maxRecDepth 100000 in
set_option maxHeartbeats 4000000 in
theorem unsigned_no (l : List UInt8) (w : World) (hs : l.length ≤ 1048576) (h1 : ∀ r, l ≠ 45 :: r) (h2 : ∀ r, l ≠ 43 :: r) (hb : body l = l) (hd : ¬ Dg (S l)) (h0 : 0 < (S l).size) :
    Calls Tryd.prog 3 #[.string (S l)] w fun e w' => e = .returned (.bool true) ∧ Below w.heap.size w w' := by
  have hsz : (S l).size = l.length := S_size _
  have hlen : (S l).size ≤ 1048576 := by omega
  have e1 : ¬ (1048576 : Int) < ((S l).size : Int) := by omega
  have g1 : (0 : Int) < ((S l).size : Int) := by omega
  have g2 : ((((S l)[0]'h0).toNat : Int) == 45) = false := beq_eq_false_iff_ne.2 (other_head l h1 h2 h0).1
  have g3 : ((((S l)[0]'h0).toNat : Int) == 43) = false := beq_eq_false_iff_ne.2 (other_head l h1 h2 h0).2
  have HM := hid (S_cons 45 l)
  have HP := hid (S_cons 43 l)
  have H1 := hid (zz_no l w (by omega) (by rw [hb]; exact hd))
  have H2 := hid (fun w : World => zz_no (45 :: l) w (by simp; omega) hd)
  have H3 := hid (fun w : World => zz_no (43 :: l) w (by simp; omega) hd)
  have H4 := hid (fun w : World => dec_no (S l) w (by rw [S_size]; omega) hd)
  clear hsz hs h1 h2 hb hd
  generalize hS : S l = s at *
  clear hS
  go_enter Tryd.func3, Tryd.ntmps3
  go_wp2_with (go_at_call 5; refine (size1_yes _ _ hlen).mono ?_; rintro e w' ⟨rfl, rfl⟩)
  refine H1.out.mono ?_
  rintro e w1 ⟨rfl, hb1⟩
  have HB1 := hid hb1
  clear hb1
  go_wp2_with fail
  rw [HM.out]
  refine (H2.out _).mono ?_
  rintro e w2 ⟨rfl, hb2⟩
  have HB2 := hid (HB1.out.trans (hb2.mono HB1.out.size))
  clear hb2 HB1
  go_wp2_with fail
  rw [HP.out]
  refine (H3.out _).mono ?_
  rintro e w3 ⟨rfl, hb3⟩
  have HB3 := hid (HB2.out.trans (hb3.mono HB2.out.size))
  clear hb3 HB2
  go_wp2_with fail
  refine (H4.out _).mono ?_
  rintro e w4 ⟨rfl, rfl⟩
  go_wp2_with fail
  go_ret
  exact ⟨rfl, HB3.out⟩

set_option maxRecDepth 100000 in
set_option maxHeartbeats 4000000 in
theorem unsigned_empty (w : World) :
    Calls Tryd.prog 3 #[.string (S [])] w fun e w' => e = .returned (.bool true) ∧ Below w.heap.size w w' := by
  have hsz : (S []).size = 0 := rfl
  have hd : ¬ Dg (S []) := fun h => absurd h.1 (by rw [hsz]; omega)
  have hlen : (S []).size ≤ 1048576 := by omega
  have e1 : ¬ (1048576 : Int) < ((S []).size : Int) := by omega
  have g1 : ¬ (0 : Int) < ((S []).size : Int) := by omega
  have HM := hid (S_cons 45 [])
  have HP := hid (S_cons 43 [])
  have H1 := hid (zz_no [] w (by simp) hd)
  have H2 := hid (fun w : World => zz_no [45] w (by simp) hd)
  have H3 := hid (fun w : World => zz_no [43] w (by simp) hd)
  have H4 := hid (fun w : World => dec_no (S []) w (by rw [hsz]; omega) hd)
  clear hsz hd
  generalize hS : S [] = s at *
  clear hS
  go_enter Tryd.func3, Tryd.ntmps3
  go_wp2_with (go_at_call 5; refine (size1_yes _ _ hlen).mono ?_; rintro e w' ⟨rfl, rfl⟩)
  refine H1.out.mono ?_
  rintro e w1 ⟨rfl, hb1⟩
  have HB1 := hid hb1
  clear hb1
  go_wp2_with fail
  rw [HM.out]
  refine (H2.out _).mono ?_
  rintro e w2 ⟨rfl, hb2⟩
  have HB2 := hid (HB1.out.trans (hb2.mono HB1.out.size))
  clear hb2 HB1
  go_wp2_with fail
  rw [HP.out]
  refine (H3.out _).mono ?_
  rintro e w3 ⟨rfl, hb3⟩
  have HB3 := hid (HB2.out.trans (hb3.mono HB2.out.size))
  clear hb3 HB2
  go_wp2_with fail
  refine (H4.out _).mono ?_
  rintro e w4 ⟨rfl, rfl⟩
  go_wp2_with fail
  go_ret
  exact ⟨rfl, HB3.out⟩

theorem signed_short (l : List UInt8) (w : World) (hs : l.length ≤ 1048576) (he : EV w) :
    Calls Tryd.prog 3 #[.string (S l)] w fun e w' => e = .returned (.bool true) ∧ Below w.heap.size w w' := by
  rcases three l with ⟨r, rfl, _, _⟩ | ⟨r, rfl, _, _⟩ | ⟨h1, h2, hsg, hb⟩
  · by_cases hd : Dg (S r)
    · exact signed_minus_yes r w (by simpa using hs) hd he
    · exact signed_minus_no r w (by simpa using hs) hd
  · by_cases hd : Dg (S r)
    · exact signed_plus_yes r w (by simpa using hs) hd he
    · exact signed_plus_no r w (by simpa using hs) hd
  · by_cases hd : Dg (S l)
    · exact unsigned_yes l w hs h1 h2 hsg hb hd he
    · by_cases h0 : 0 < (S l).size
      · exact unsigned_no l w hs h1 h2 hb hd h0
      · have : l = [] := by
          rw [S_size] at h0
          exact List.eq_nil_of_length_eq_zero (by omega)
        subst this
        exact unsigned_empty w
end Go.Proofs.Qxb6619297aDoor
