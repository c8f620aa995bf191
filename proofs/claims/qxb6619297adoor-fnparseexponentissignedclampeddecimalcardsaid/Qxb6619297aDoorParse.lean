import Derived.Test.Qxb6619297aDoorWalks
import Derived.Deep.DeepCutAuto
namespace Go.Proofs.Qxb6619297aDoor
open Go.RowKit Pl

/-- a string of these bytes -/
def S (l : List UInt8) : ByteArray := ⟨l.toArray⟩
theorem S_list (l : List UInt8) : (S l).data.toList = l := rfl
theorem S_size (l : List UInt8) : (S l).size = l.length := by show l.toArray.size = _; simp
theorem S_self (s : ByteArray) : S s.data.toList = s := by cases s; simp [S]

theorem cut_minus (r : List UInt8) (w : World) :
    Calls Tryd.prog 11 #[.string (S (45 :: r)), .string ⟨#[45]⟩] w fun e w' => e = .returned (.tuple #[.string (S r), .bool true]) ∧ w' = w := by
  have h := Tryd.strings_CutPrefix (S (45 :: r)) ⟨#[45]⟩ w
  rw [S_list] at h
  have e1 : Lib.hasPrefix (45 :: r) (⟨#[45]⟩ : ByteArray).data.toList = true := by simp [Lib.hasPrefix]
  have e2 : Lib.trimPrefix (45 :: r) (⟨#[45]⟩ : ByteArray).data.toList = r := by rw [Lib.trimPrefix, if_pos e1]; rfl
  rw [e1, e2] at h
  exact h

theorem cut_other (l : List UInt8) (hl : ∀ r, l ≠ 45 :: r) (w : World) :
    Calls Tryd.prog 11 #[.string (S l), .string ⟨#[45]⟩] w fun e w' => e = .returned (.tuple #[.string (S l), .bool false]) ∧ w' = w := by
  have h := Tryd.strings_CutPrefix (S l) ⟨#[45]⟩ w
  rw [S_list] at h
  have e1 : Lib.hasPrefix l (⟨#[45]⟩ : ByteArray).data.toList = false := by
    cases l with
    | nil => rfl
    | cons c r =>
      have : ¬ c = 45 := fun e => hl r (by rw [e])
      have h2 : (45 == c) = false := beq_eq_false_iff_ne.2 (fun e => this e.symm)
      show (45 == c && List.isPrefixOf [] r) = false
      rw [h2, Bool.false_and]
  have e2 : Lib.trimPrefix l (⟨#[45]⟩ : ByteArray).data.toList = l := by rw [Lib.trimPrefix, if_neg (by rw [e1]; simp)]
  rw [e1, e2] at h
  exact h

theorem trim_plus (r : List UInt8) (w : World) :
    Calls Tryd.prog 12 #[.string (S (43 :: r)), .string ⟨#[43]⟩] w fun e w' => e = .returned (.string (S r)) ∧ w' = w := by
  have h := Tryd.strings_TrimPrefix (S (43 :: r)) ⟨#[43]⟩ w
  rw [S_list] at h
  have e1 : Lib.hasPrefix (43 :: r) (⟨#[43]⟩ : ByteArray).data.toList = true := by simp [Lib.hasPrefix]
  have e2 : Lib.trimPrefix (43 :: r) (⟨#[43]⟩ : ByteArray).data.toList = r := by rw [Lib.trimPrefix, if_pos e1]; rfl
  rw [e2] at h
  exact h

theorem trim_other (l : List UInt8) (hl : ∀ r, l ≠ 43 :: r) (w : World) :
    Calls Tryd.prog 12 #[.string (S l), .string ⟨#[43]⟩] w fun e w' => e = .returned (.string (S l)) ∧ w' = w := by
  have h := Tryd.strings_TrimPrefix (S l) ⟨#[43]⟩ w
  rw [S_list] at h
  have e1 : Lib.hasPrefix l (⟨#[43]⟩ : ByteArray).data.toList = false := by
    cases l with
    | nil => rfl
    | cons c r =>
      have : ¬ c = 43 := fun e => hl r (by rw [e])
      have h2 : (43 == c) = false := beq_eq_false_iff_ne.2 (fun e => this e.symm)
      show (43 == c && List.isPrefixOf [] r) = false
      rw [h2, Bool.false_and]
  have e2 : Lib.trimPrefix l (⟨#[43]⟩ : ByteArray).data.toList = l := by rw [Lib.trimPrefix, if_neg (by rw [e1]; simp)]
  rw [e2] at h
  exact h

/-- the digits' string: as bytes -/
theorem dg_iff (l : List UInt8) : Dg (S l) ↔ l ≠ [] ∧ l.all isDig = true := by
  have hg : ∀ (k : Nat) (h : k < (S l).size) (h' : k < l.length), (S l)[k]'h = l[k]'h' := by
    intro k h h'
    show l.toArray[k] = _
    simp
  rw [List.all_eq_true]
  constructor
  · rintro ⟨h0, h⟩
    rw [S_size] at h0
    refine ⟨by intro e; rw [e] at h0; simp at h0, fun c hc => ?_⟩
    obtain ⟨k, hk, rfl⟩ := List.mem_iff_getElem.1 hc
    have := h k (by rw [S_size]; exact hk)
    rw [hg k (by rw [S_size]; exact hk) hk] at this
    simp [isDig, this]
  · rintro ⟨h0, h⟩
    refine ⟨by rw [S_size]; exact List.length_pos_iff.2 h0, fun k hk => ?_⟩
    have hk' : k < l.length := by rw [S_size] at hk; exact hk
    have := h l[k] (List.getElem_mem hk')
    rw [hg k hk hk']
    simp [isDig] at this
    omega

theorem bytesWorld_below (w : World) (t : ByteArray) : Below w.heap.size w (Lib.bytesWorld w 5 t) :=
  ⟨rfl, rfl, rfl, by rw [Lib.bytesWorld_size]; omega, fun k hk => Lib.bytesWorld_at_old w 5 t k hk⟩

/-- the variable strconv.ErrRange holds some error -/
def EV (w : World) : Prop := ∃ te pe, w.cell? ⟨1, 0, none⟩ = some (.iface te pe)

theorem EV.below {w w' : World} (h : EV w) (hb : Below w.heap.size w w') : EV w' := by
  obtain ⟨te, pe, h⟩ := h
  exact ⟨te, pe, by rw [hb.cell (World.block_lt_of_cell? w _ h), h]⟩

theorem atoi_ok (l : List UInt8) (w : World) (hs : l.length ≤ 2000000) (h0 : l ≠ []) (h : l.all isDig = true) (hv : dval 0 l < 9223372036854775808) :
    Calls Tryd.prog 14 #[.string (S l)] w fun e w' => e = .returned (.tuple #[.int .i64 (dval 0 l : Int), .nilIface]) ∧ Below w.heap.size w w' := by
  rcases atoi_digits l h0 h with ⟨h1, _⟩ | ⟨_, h2⟩
  · refine (Tryd.strconv_Atoi_ok (S l) (by rw [S_size]; omega) _ h1 w).mono ?_
    rintro e w' ⟨rfl, hw⟩
    refine ⟨rfl, ?_⟩
    rcases hw with rfl | ⟨t, rfl⟩
    · exact Below.refl _ _
    · exact bytesWorld_below w t
  · omega

theorem atoi_range (l : List UInt8) (w : World) (hs : l.length ≤ 2000000) (h0 : l ≠ []) (h : l.all isDig = true) (hv : 9223372036854775808 ≤ dval 0 l) (he : EV w) :
    Calls Tryd.prog 14 #[.string (S l)] w fun e w' => (∃ x N, e = .returned (.tuple #[.int .i64 x, .iface 40 (.pointer (some ⟨N, 0, none⟩))])) ∧ Below w.heap.size w w' := by
  rcases atoi_digits l h0 h with ⟨_, h2⟩ | ⟨h1, _⟩
  · omega
  · obtain ⟨te, pe, hc⟩ := he
    refine (Tryd.strconv_Atoi_range (S l) (by rw [S_size]; omega) h1 _ w hc (.inr ⟨te, pe, rfl⟩)).mono ?_
    rintro e w' ⟨N, rfl, _, _, hb⟩
    exact ⟨⟨_, N, rfl⟩, hb⟩

/-- the sign and what stands behind it -/
def sgn : List UInt8 → Int
  | 45 :: _ => -1
  | _ => 1
def body : List UInt8 → List UInt8
  | 45 :: r => r
  | 43 :: r => r
  | l => l

theorem body_len (l : List UInt8) : (body l).length ≤ l.length := by
  unfold body
  split <;> simp

/-- the head of parseExponent: the sign is cut off; then 'rest' -/
theorem three (l : List UInt8) : (∃ r, l = 45 :: r ∧ sgn l = -1 ∧ body l = r) ∨ (∃ r, l = 43 :: r ∧ sgn l = 1 ∧ body l = r) ∨ ((∀ r, l ≠ 45 :: r) ∧ (∀ r, l ≠ 43 :: r) ∧ sgn l = 1 ∧ body l = l) := by
  cases l with
  | nil => exact .inr (.inr ⟨by simp, by simp, rfl, rfl⟩)
  | cons c r =>
    by_cases h1 : c = 45
    · subst h1; exact .inl ⟨r, rfl, rfl, rfl⟩
    · by_cases h2 : c = 43
      · subst h2; exact .inr (.inl ⟨r, rfl, rfl, rfl⟩)
      · refine .inr (.inr ⟨fun r' e => h1 (by injection e), fun r' e => h2 (by injection e), ?_, ?_⟩)
        · unfold sgn
          split
          · rename_i e; injection e with e _; exact absurd e h1
          · rfl
        · unfold body
          split
          · rename_i e; injection e with e _; exact absurd e h1
          · rename_i e; injection e with e _; exact absurd e h2
          · rfl

set_option maxRecDepth 100000 in
set_option maxHeartbeats 1000000 in
theorem parse_no (l : List UInt8) (w : World) (hs : l.length ≤ 1900000) (h : ¬ Dg (S (body l))) :
    Calls Tryd.prog 10 #[.string (S l)] w fun e w' => e = .returned (.tuple #[.int .i64 0, .bool false]) ∧ w' = w := by
  have H13 := hid (digits_no (S (body l)) w (by rw [S_size]; have := body_len l; omega) h)
  clear h
  rcases three l with ⟨r, rfl, _, hb⟩ | ⟨r, rfl, _, hb⟩ | ⟨h1, h2, _, hb⟩
  · rw [hb] at H13
    have H11 := hid (cut_minus r w)
    clear hb
    generalize hS : S (45 :: r) = s at *
    clear hS
    go_enter Tryd.func10, Tryd.ntmps10
    go_wp2_with (first | (go_at_call 11; refine H11.out.mono ?_; rintro e w' ⟨rfl, rfl⟩) | (go_at_call 13; refine H13.out.mono ?_; rintro e w' ⟨rfl, rfl⟩))
    go_ret2
    exact ⟨rfl, rfl⟩
  · rw [hb] at H13
    have H11 := hid (cut_other (43 :: r) (by simp) w)
    have H12 := hid (trim_plus r w)
    clear hb
    generalize hS : S (43 :: r) = s at *
    clear hS
    go_enter Tryd.func10, Tryd.ntmps10
    go_wp2_with (first | (go_at_call 11; refine H11.out.mono ?_; rintro e w' ⟨rfl, rfl⟩) | (go_at_call 12; refine H12.out.mono ?_; rintro e w' ⟨rfl, rfl⟩) | (go_at_call 13; refine H13.out.mono ?_; rintro e w' ⟨rfl, rfl⟩))
    go_ret2
    exact ⟨rfl, rfl⟩
  · rw [hb] at H13
    have H11 := hid (cut_other l h1 w)
    have H12 := hid (trim_other l h2 w)
    clear hb
    generalize hS : S l = s at *
    clear hS h1 h2
    go_enter Tryd.func10, Tryd.ntmps10
    go_wp2_with (first | (go_at_call 11; refine H11.out.mono ?_; rintro e w' ⟨rfl, rfl⟩) | (go_at_call 12; refine H12.out.mono ?_; rintro e w' ⟨rfl, rfl⟩) | (go_at_call 13; refine H13.out.mono ?_; rintro e w' ⟨rfl, rfl⟩))
    go_ret2
    exact ⟨rfl, rfl⟩

theorem mag_small (l : List UInt8) (h : dval 0 l ≤ 1000000000) : cval 0 l = dval 0 l := by
  have := cval_dval l 0
  rw [clamp_small 0 (by omega)] at this
  rw [this, clamp_small _ h]

theorem mag_big (l : List UInt8) (h : 1000000000 < dval 0 l) : cval 0 l = 1000000000 := by
  have := cval_dval l 0
  rw [clamp_small 0 (by omega)] at this
  rw [this, clamp_big _ h]

set_option maxRecDepth 100000 in
set_option maxHeartbeats 1000000 in
theorem parse_small (l : List UInt8) (w : World) (hs : l.length ≤ 1900000) (h : Dg (S (body l))) (v : Nat) (hv : dval 0 (body l) = v) (hv2 : v ≤ 1000000000) :
    Calls Tryd.prog 10 #[.string (S l)] w fun e w' => e = .returned (.tuple #[.int .i64 (sgn l * (v : Int)), .bool true]) ∧ Below w.heap.size w w' := by
  have hd := (dg_iff (body l)).1 h
  have hbl := body_len l
  have H13 := hid (digits_yes (S (body l)) w (by rw [S_size]; omega) h)
  have H14a := atoi_ok (body l) w (by omega) hd.1 hd.2 (by omega)
  rw [hv] at H14a
  have H14 := hid H14a
  clear hv H14a
  clear h hd hbl hs
  rcases three l with ⟨r, rfl, hsg, hb⟩ | ⟨r, rfl, hsg, hb⟩ | ⟨h1, h2, hsg, hb⟩
  · rw [hb] at H13 H14
    rw [hsg, show (-1 : Int) * (v : Int) = -(v : Int) from by omega]
    have H11 := hid (cut_minus r w)
    clear hb hsg
    generalize hS : S (45 :: r) = s at *
    clear hS
    go_enter Tryd.func10, Tryd.ntmps10
    go_wp2_with (first | (go_at_call 11; refine H11.out.mono ?_; rintro e w' ⟨rfl, rfl⟩) | (go_at_call 13; refine H13.out.mono ?_; rintro e w' ⟨rfl, rfl⟩) | (go_at_call 14; refine H14.out.mono ?_; rintro e w' ⟨rfl, hbl⟩))
    go_ret2
    exact ⟨rfl, hbl⟩
  · rw [hb] at H13 H14
    rw [hsg, Int.one_mul]
    have H11 := hid (cut_other (43 :: r) (by simp) w)
    have H12 := hid (trim_plus r w)
    clear hb hsg
    generalize hS : S (43 :: r) = s at *
    clear hS
    go_enter Tryd.func10, Tryd.ntmps10
    go_wp2_with (first | (go_at_call 11; refine H11.out.mono ?_; rintro e w' ⟨rfl, rfl⟩) | (go_at_call 12; refine H12.out.mono ?_; rintro e w' ⟨rfl, rfl⟩) | (go_at_call 13; refine H13.out.mono ?_; rintro e w' ⟨rfl, rfl⟩) | (go_at_call 14; refine H14.out.mono ?_; rintro e w' ⟨rfl, hbl⟩))
    go_ret2
    exact ⟨rfl, hbl⟩
  · rw [hb] at H13 H14
    rw [hsg, Int.one_mul]
    have H11 := hid (cut_other l h1 w)
    have H12 := hid (trim_other l h2 w)
    clear hb hsg h1 h2
    generalize hS : S l = s at *
    clear hS
    go_enter Tryd.func10, Tryd.ntmps10
    go_wp2_with (first | (go_at_call 11; refine H11.out.mono ?_; rintro e w' ⟨rfl, rfl⟩) | (go_at_call 12; refine H12.out.mono ?_; rintro e w' ⟨rfl, rfl⟩) | (go_at_call 13; refine H13.out.mono ?_; rintro e w' ⟨rfl, rfl⟩) | (go_at_call 14; refine H14.out.mono ?_; rintro e w' ⟨rfl, hbl⟩))
    go_ret2
    exact ⟨rfl, hbl⟩

set_option maxRecDepth 100000 in
set_option maxHeartbeats 1000000 in
theorem parse_big (l : List UInt8) (w : World) (hs : l.length ≤ 1900000) (h : Dg (S (body l))) (v : Nat) (hv : dval 0 (body l) = v) (hv2 : 1000000000 < v) (hv3 : v < 9223372036854775808) :
    Calls Tryd.prog 10 #[.string (S l)] w fun e w' => e = .returned (.tuple #[.int .i64 (sgn l * 1000000000), .bool true]) ∧ Below w.heap.size w w' := by
  have hd := (dg_iff (body l)).1 h
  have hbl := body_len l
  have H13 := hid (digits_yes (S (body l)) w (by rw [S_size]; omega) h)
  have H14a := atoi_ok (body l) w (by omega) hd.1 hd.2 (by omega)
  rw [hv] at H14a
  have H14 := hid H14a
  clear hv H14a
  have hv4 : (1000000000 : Int) < (v : Int) := by omega
  clear h hd hbl hs
  rcases three l with ⟨r, rfl, hsg, hb⟩ | ⟨r, rfl, hsg, hb⟩ | ⟨h1, h2, hsg, hb⟩
  · rw [hb] at H13 H14
    rw [hsg, show (-1 : Int) * 1000000000 = -1000000000 from by omega]
    have H11 := hid (cut_minus r w)
    clear hb hsg
    generalize hS : S (45 :: r) = s at *
    clear hS
    go_enter Tryd.func10, Tryd.ntmps10
    go_wp2_with (first | (go_at_call 11; refine H11.out.mono ?_; rintro e w' ⟨rfl, rfl⟩) | (go_at_call 13; refine H13.out.mono ?_; rintro e w' ⟨rfl, rfl⟩) | (go_at_call 14; refine H14.out.mono ?_; rintro e w' ⟨rfl, hbl⟩))
    go_ret2
    exact ⟨rfl, hbl⟩
  · rw [hb] at H13 H14
    rw [hsg, Int.one_mul]
    have H11 := hid (cut_other (43 :: r) (by simp) w)
    have H12 := hid (trim_plus r w)
    clear hb hsg
    generalize hS : S (43 :: r) = s at *
    clear hS
    go_enter Tryd.func10, Tryd.ntmps10
    go_wp2_with (first | (go_at_call 11; refine H11.out.mono ?_; rintro e w' ⟨rfl, rfl⟩) | (go_at_call 12; refine H12.out.mono ?_; rintro e w' ⟨rfl, rfl⟩) | (go_at_call 13; refine H13.out.mono ?_; rintro e w' ⟨rfl, rfl⟩) | (go_at_call 14; refine H14.out.mono ?_; rintro e w' ⟨rfl, hbl⟩))
    go_ret2
    exact ⟨rfl, hbl⟩
  · rw [hb] at H13 H14
    rw [hsg, Int.one_mul]
    have H11 := hid (cut_other l h1 w)
    have H12 := hid (trim_other l h2 w)
    clear hb hsg h1 h2
    generalize hS : S l = s at *
    clear hS
    go_enter Tryd.func10, Tryd.ntmps10
    go_wp2_with (first | (go_at_call 11; refine H11.out.mono ?_; rintro e w' ⟨rfl, rfl⟩) | (go_at_call 12; refine H12.out.mono ?_; rintro e w' ⟨rfl, rfl⟩) | (go_at_call 13; refine H13.out.mono ?_; rintro e w' ⟨rfl, rfl⟩) | (go_at_call 14; refine H14.out.mono ?_; rintro e w' ⟨rfl, hbl⟩))
    go_ret2
    exact ⟨rfl, hbl⟩

set_option maxRecDepth 100000 in
set_option maxHeartbeats 1000000 in
theorem parse_over (l : List UInt8) (w : World) (hs : l.length ≤ 1900000) (h : Dg (S (body l))) (hv : 9223372036854775808 ≤ dval 0 (body l)) (he : EV w) :
    Calls Tryd.prog 10 #[.string (S l)] w fun e w' => e = .returned (.tuple #[.int .i64 (sgn l * 1000000000), .bool true]) ∧ Below w.heap.size w w' := by
  have hd := (dg_iff (body l)).1 h
  have hbl := body_len l
  have H13 := hid (digits_yes (S (body l)) w (by rw [S_size]; omega) h)
  have H14 := hid (atoi_range (body l) w (by omega) hd.1 hd.2 hv he)
  clear hv he
  clear h hd hbl hs
  rcases three l with ⟨r, rfl, hsg, hb⟩ | ⟨r, rfl, hsg, hb⟩ | ⟨h1, h2, hsg, hb⟩
  · rw [hb] at H13 H14
    rw [hsg, show (-1 : Int) * 1000000000 = -1000000000 from by omega]
    have H11 := hid (cut_minus r w)
    clear hb hsg
    generalize hS : S (45 :: r) = s at *
    clear hS
    go_enter Tryd.func10, Tryd.ntmps10
    go_wp2_with (first | (go_at_call 11; refine H11.out.mono ?_; rintro e w' ⟨rfl, rfl⟩) | (go_at_call 13; refine H13.out.mono ?_; rintro e w' ⟨rfl, rfl⟩) | (go_at_call 14; refine H14.out.mono ?_; rintro e w' ⟨⟨x, N, rfl⟩, hbl⟩))
    go_ret2
    exact ⟨rfl, hbl⟩
  · rw [hb] at H13 H14
    rw [hsg, Int.one_mul]
    have H11 := hid (cut_other (43 :: r) (by simp) w)
    have H12 := hid (trim_plus r w)
    clear hb hsg
    generalize hS : S (43 :: r) = s at *
    clear hS
    go_enter Tryd.func10, Tryd.ntmps10
    go_wp2_with (first | (go_at_call 11; refine H11.out.mono ?_; rintro e w' ⟨rfl, rfl⟩) | (go_at_call 12; refine H12.out.mono ?_; rintro e w' ⟨rfl, rfl⟩) | (go_at_call 13; refine H13.out.mono ?_; rintro e w' ⟨rfl, rfl⟩) | (go_at_call 14; refine H14.out.mono ?_; rintro e w' ⟨⟨x, N, rfl⟩, hbl⟩))
    go_ret2
    exact ⟨rfl, hbl⟩
  · rw [hb] at H13 H14
    rw [hsg, Int.one_mul]
    have H11 := hid (cut_other l h1 w)
    have H12 := hid (trim_other l h2 w)
    clear hb hsg h1 h2
    generalize hS : S l = s at *
    clear hS
    go_enter Tryd.func10, Tryd.ntmps10
    go_wp2_with (first | (go_at_call 11; refine H11.out.mono ?_; rintro e w' ⟨rfl, rfl⟩) | (go_at_call 12; refine H12.out.mono ?_; rintro e w' ⟨rfl, rfl⟩) | (go_at_call 13; refine H13.out.mono ?_; rintro e w' ⟨rfl, rfl⟩) | (go_at_call 14; refine H14.out.mono ?_; rintro e w' ⟨⟨x, N, rfl⟩, hbl⟩))
    go_ret2
    exact ⟨rfl, hbl⟩


theorem parse_yes (l : List UInt8) (w : World) (hs : l.length ≤ 1900000) (h : Dg (S (body l))) (he : EV w) :
    Calls Tryd.prog 10 #[.string (S l)] w fun e w' => e = .returned (.tuple #[.int .i64 (sgn l * (cval 0 (body l) : Int)), .bool true]) ∧ Below w.heap.size w w' := by
  by_cases h1 : dval 0 (body l) ≤ 1000000000
  · rw [mag_small _ h1]
    exact parse_small l w hs h _ rfl h1
  · rw [mag_big _ (by omega)]
    by_cases h2 : dval 0 (body l) < 9223372036854775808
    · exact parse_big l w hs h _ rfl (by omega) h2
    · exact parse_over l w hs h (by omega) he

set_option maxHeartbeats 400000 in
theorem zz_yes (l : List UInt8) (w : World) (hs : l.length ≤ 1900000) (h : Dg (S (body l))) (he : EV w) :
    Calls Tryd.prog 6 #[.string (S l)] w fun e w' => e = .returned (.tuple #[.int .i64 (sgn l * (cval 0 (body l) : Int)), .bool true]) ∧ Below w.heap.size w w' := by
  have H := hid (parse_yes l w hs h he)
  clear h he hs
  generalize sgn l * (cval 0 (body l) : Int) = x at *
  generalize S l = s at *
  go_enter Tryd.func6, Tryd.ntmps6
  go_wp2_with (go_at_call 10; refine H.out.mono ?_; rintro e w' ⟨rfl, hb⟩)
  go_ret2
  exact ⟨rfl, hb⟩

set_option maxHeartbeats 400000 in
theorem zz_no (l : List UInt8) (w : World) (hs : l.length ≤ 1900000) (h : ¬ Dg (S (body l))) :
    Calls Tryd.prog 6 #[.string (S l)] w fun e w' => e = .returned (.tuple #[.int .i64 0, .bool false]) ∧ Below w.heap.size w w' := by
  have H := hid (parse_no l w hs h)
  clear h hs
  generalize S l = s at *
  go_enter Tryd.func6, Tryd.ntmps6
  go_wp2_with (go_at_call 10; refine H.out.mono ?_; rintro e w' ⟨rfl, rfl⟩)
  go_ret2
  exact ⟨rfl, Below.refl _ _⟩
end Go.Proofs.Qxb6619297aDoor
