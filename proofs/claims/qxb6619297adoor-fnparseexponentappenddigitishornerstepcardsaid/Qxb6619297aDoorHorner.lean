import Derived.Test.Qxb6619297aDoorParse
namespace Go.Proofs.Qxb6619297aDoor
open Go.RowKit Pl

set_option maxHeartbeats 400000 in
theorem size_yes (s : ByteArray) (d : Int) (w : World) (h : s.size ≤ 1048576) :
    Calls Tryd.prog 8 #[.string s, .int .u8 d] w fun e w' => e = .returned (.bool true) ∧ w' = w := by
  have e1 : ¬ (1048576 : Int) < (s.size : Int) := by omega
  go_enter Tryd.func8, Tryd.ntmps8
  go_wp2
  go_ret
  exact ⟨rfl, rfl⟩

set_option maxHeartbeats 400000 in
theorem size_no (s : ByteArray) (d : Int) (w : World) (h : 1048576 < s.size) :
    Calls Tryd.prog 8 #[.string s, .int .u8 d] w fun e w' => e = .returned (.bool false) ∧ w' = w := by
  have e1 : (1048576 : Int) < (s.size : Int) := by omega
  go_enter Tryd.func8, Tryd.ntmps8
  go_wp2
  go_ret
  exact ⟨rfl, rfl⟩

set_option maxRecDepth 100000 in
set_option maxHeartbeats 1000000 in
theorem horner_long (s : ByteArray) (d : Int) (w : World) (h : 1048576 < s.size) :
    Calls Tryd.prog 4 #[.string s, .int .u8 d] w fun e w' => e = .returned (.bool true) ∧ Below w.heap.size w w' := by
  go_enter Tryd.func4, Tryd.ntmps4
  go_wp2_with (go_at_call 8; refine (size_no _ _ _ h).mono ?_; rintro e w' ⟨rfl, rfl⟩)
  go_ret
  exact ⟨rfl, Below.refl _ _⟩

theorem S_tail (c : UInt8) (r : List UInt8) : (S (c :: r)).extract 1 (S (c :: r)).size = S r := by
  have h := Lib.extract_data (S (c :: r)) 1 (S (c :: r)).size
  have h2 : ((S (c :: r)).extract 1 (S (c :: r)).size).data.toList = r := by
    rw [h]
    simp [S_list, S_size]
  rw [← S_self ((S (c :: r)).extract 1 (S (c :: r)).size), h2]

def hasSign : List UInt8 → Bool
  | 45 :: _ => true
  | 43 :: _ => true
  | _ => false

theorem other_head (l : List UInt8) (h1 : ∀ r, l ≠ 45 :: r) (h2 : ∀ r, l ≠ 43 :: r) (h : 0 < (S l).size) : (((S l)[0]'h).toNat : Int) ≠ 45 ∧ (((S l)[0]'h).toNat : Int) ≠ 43 := by
  cases l with
  | nil => exact absurd h (by rw [S_size]; simp)
  | cons c r =>
    have e : (S (c :: r))[0]'h = c := rfl
    rw [e]
    constructor
    · intro hc
      exact h1 r (by rw [show c = 45 from UInt8.toNat_inj.1 (by show c.toNat = 45; omega)])
    · intro hc
      exact h2 r (by rw [show c = 43 from UInt8.toNat_inj.1 (by show c.toNat = 43; omega)])

theorem sign_none (l : List UInt8) (h1 : ∀ r, l ≠ 45 :: r) (h2 : ∀ r, l ≠ 43 :: r) : hasSign l = false := by
  unfold hasSign
  split
  · exact absurd rfl (h1 _)
  · exact absurd rfl (h2 _)
  · rfl

theorem ret_true {b : Bool} (h : b = true) : Ending.returned (.bool b) = .returned (.bool true) := by rw [h]

theorem cat_one (l : List UInt8) (d : UInt8) : S l ++ strOfNums [(d.toNat : Int)] = S (l ++ [d]) := by
  rw [← S_self (S l ++ strOfNums [(d.toNat : Int)])]
  congr 1
  rw [ByteArray.data_append, Array.toList_append, S_list, strOfNums_data]
  simp

theorem sgn_cases (l : List UInt8) : sgn l = 1 ∨ sgn l = -1 := by
  unfold sgn
  split
  · exact .inr rfl
  · exact .inl rfl

theorem snoc_cons (l : List UInt8) (d : UInt8) (h : l ≠ []) : body (l ++ [d]) = body l ++ [d] ∧ sgn (l ++ [d]) = sgn l := by
  cases l with
  | nil => exact absurd rfl h
  | cons c r =>
    by_cases h1 : c = 45
    · subst h1; exact ⟨rfl, rfl⟩
    · by_cases h2 : c = 43
      · subst h2; exact ⟨rfl, rfl⟩
      · rcases three (c :: r) with ⟨r', e, _, _⟩ | ⟨r', e, _, _⟩ | ⟨_, _, s1, b1⟩
        · injection e with e _; exact absurd e h1
        · injection e with e _; exact absurd e h2
        · rcases three (c :: r ++ [d]) with ⟨r', e, _, _⟩ | ⟨r', e, _, _⟩ | ⟨_, _, s2, b2⟩
          · injection e with e _; exact absurd e h1
          · injection e with e _; exact absurd e h2
          · rw [s1, s2, b1, b2]; exact ⟨rfl, rfl⟩

theorem snoc_dig (l : List UInt8) (d : UInt8) (h : isDig d = true) : body (l ++ [d]) = body l ++ [d] ∧ sgn (l ++ [d]) = sgn l := by
  cases l with
  | nil =>
    simp [isDig] at h
    rcases three ([] ++ [d]) with ⟨r', e, _, _⟩ | ⟨r', e, _, _⟩ | ⟨_, _, s1, b1⟩
    · injection e with e _; subst e; simp at h
    · injection e with e _; subst e; simp at h
    · rw [s1, b1]; exact ⟨rfl, rfl⟩
  | cons c r => exact snoc_cons (c :: r) d (by simp)

theorem snoc_not (l : List UInt8) (d : UInt8) (h : isDig d = false) : ¬ Dg (S (body (l ++ [d]))) := by
  rw [dg_iff]
  rintro ⟨h1, h2⟩
  cases l with
  | nil =>
    rcases three ([] ++ [d]) with ⟨r', e, _, b⟩ | ⟨r', e, _, b⟩ | ⟨_, _, _, b⟩
    · injection e with _ e; subst e; exact h1 b
    · injection e with _ e; subst e; exact h1 b
    · rw [b] at h2; simp [h] at h2
  | cons c r =>
    rw [(snoc_cons (c :: r) d (by simp)).1, List.all_append] at h2
    simp [h] at h2

set_option maxRecDepth 100000 in
set_option maxHeartbeats 4000000 in
theorem horner_short (l : List UInt8) (d : UInt8) (w : World) (hs : l.length ≤ 1048576) (he : EV w) :
    Calls Tryd.prog 4 #[.string (S l), .int .u8 (d.toNat : Int)] w fun e w' => e = .returned (.bool true) ∧ Below w.heap.size w w' := by
  have hsz := S_size l
  have HSZ := hid hsz
  have hlen : (S l).size ≤ 1048576 := by omega
  have e1 : ¬ (1048576 : Int) < ((S l).size : Int) := by omega
  clear hsz
  have HE := hid he
  clear he
  go_enter Tryd.func4, Tryd.ntmps4
  go_upto_region 7 with (go_at_call 8; refine (size_yes _ _ _ hlen).mono ?_; rintro e w' ⟨rfl, rfl⟩)
  rename World => w
  go_cut [34] (fun t wc => t = .bool (hasSign l) ∧ wc = w)
  case first =>
    rcases three l with ⟨r, rfl, hsg, hb⟩ | ⟨r, rfl, hsg, hb⟩ | ⟨h1, h2, hsg, hb⟩
    · have h0 : 0 < (S (45 :: r)).size := by rw [S_size]; simp
      have g1 : (0 : Int) < ((S (45 :: r)).size : Int) := by omega
      have g2 : ((((S (45 :: r))[0]'h0).toNat : Int) == 45) = true := rfl
      clear hsg hb
      generalize hS : S (45 :: r) = s at *
      clear hS
      go_wp2_with fail
      go_meet
      case rel => exact ⟨rfl, rfl⟩
    · have h0 : 0 < (S (43 :: r)).size := by rw [S_size]; simp
      have g1 : (0 : Int) < ((S (43 :: r)).size : Int) := by omega
      have g2 : ((((S (43 :: r))[0]'h0).toNat : Int) == 45) = false := rfl
      have g3 : ((((S (43 :: r))[0]'h0).toNat : Int) == 43) = true := rfl
      clear hsg hb
      generalize hS : S (43 :: r) = s at *
      clear hS
      go_wp2_with fail
      go_meet
      case rel => exact ⟨rfl, rfl⟩
    · clear hsg hb
      by_cases h0 : 0 < (S l).size
      · have g1 : (0 : Int) < ((S l).size : Int) := by omega
        have g2 : ((((S l)[0]'h0).toNat : Int) == 45) = false := beq_eq_false_iff_ne.2 (other_head l h1 h2 h0).1
        have g3 : ((((S l)[0]'h0).toNat : Int) == 43) = false := beq_eq_false_iff_ne.2 (other_head l h1 h2 h0).2
        have HS := hid (sign_none l h1 h2)
        clear h1 h2
        go_wp2_with fail
        go_meet
        case rel => exact ⟨by rw [HS.out], rfl⟩
      · have g1 : ¬ (0 : Int) < ((S l).size : Int) := by omega
        have HS := hid (sign_none l h1 h2)
        clear h1 h2 h0
        go_wp2_with fail
        go_meet
        case rel => exact ⟨by rw [HS.out], rfl⟩
  case rest =>
    obtain ⟨rfl, rfl⟩ := hcut
    go_upto_if 34 with fail
    go_cut [5, 6] (fun b g w2 => b = .string (S (body l)) ∧ g = .int .i64 (sgn l) ∧ w2 = wc)
    case first =>
      rcases three l with ⟨r, rfl, hsg, hb⟩ | ⟨r, rfl, hsg, hb⟩ | ⟨h1, h2, hsg, hb⟩
      · have hn : hasSign (45 :: r) = true := rfl
        have h0 : 0 < (S (45 :: r)).size := by rw [S_size]; simp
        have g1 : (0 : Int) < ((S (45 :: r)).size : Int) := by omega
        have g2 : ((((S (45 :: r))[0]'h0).toNat : Int) == 45) = true := rfl
        have HT := hid (S_tail 45 r)
        have HSG := hid hsg
        have HBD := hid hb
        rw [hn]
        clear hsg hb hn
        generalize hS : S (45 :: r) = s at *
        clear hS
        go_wp2_with fail
        go_meet
        case rel => exact ⟨by rw [HBD.out, ← HT.out], by rw [HSG.out], rfl⟩
      · have hn : hasSign (43 :: r) = true := rfl
        have h0 : 0 < (S (43 :: r)).size := by rw [S_size]; simp
        have g1 : (0 : Int) < ((S (43 :: r)).size : Int) := by omega
        have g2 : ((((S (43 :: r))[0]'h0).toNat : Int) == 45) = false := rfl
        have HT := hid (S_tail 43 r)
        have HSG := hid hsg
        have HBD := hid hb
        rw [hn]
        clear hsg hb hn
        generalize hS : S (43 :: r) = s at *
        clear hS
        go_wp2_with fail
        go_meet
        case rel => exact ⟨by rw [HBD.out, ← HT.out], by rw [HSG.out], rfl⟩
      · have hn := sign_none l h1 h2
        have HSG := hid hsg
        have HBD := hid hb
        rw [hn]
        clear hsg hb hn h1 h2
        go_wp2_with fail
        go_meet
        case rel => exact ⟨by rw [HBD.out], by rw [HSG.out], rfl⟩
    case rest =>
      obtain ⟨rfl, rfl, rfl⟩ := hcut
      rename World => w
      have hbs : (S (body l)).size ≤ 1048576 := by
        have := body_len l
        rw [S_size]
        omega
      obtain ⟨t, ht⟩ : ∃ t, t = S (body l) := ⟨_, rfl⟩
      rw [← ht] at hbs ⊢
      have HT := hid ht
      clear ht
      go_wp2_with fail
      go_loop [7] (fun i => ∃ k : Nat, k ≤ t.size ∧ i = .int .i64 k ∧ Hid (∀ (j : Nat) (h : j < t.size), j < k → 48 ≤ t[j].toNat ∧ t[j].toNat ≤ 57)) (fun i => t.size - (intOf i).toNat)
      case atStart => exact ⟨0, Nat.zero_le _, rfl, fun j _ h => absurd h (Nat.not_lt_zero _)⟩
      case round =>
        obtain ⟨k, hk, rfl, HR⟩ := hrel
        by_cases hlt : k < t.size
        · by_cases hd : 48 ≤ (t[k].toNat : Int) ∧ (t[k].toNat : Int) ≤ 57
          · have HE2 := hid hd
            go_wp2_with (go_at_call 9; refine (digit_yes _ _ hd.1 hd.2).mono ?_; rintro e w' ⟨rfl, rfl⟩)
            go_round
            case rel =>
              refine ⟨k + 1, by omega, by go_num, fun j hj hjk => ?_⟩
              by_cases hjk' : j < k
              · exact HR.out j hj hjk'
              · obtain rfl : j = k := by omega
                have := HE2.out
                omega
            case measure => simp [intOf]; omega
          · go_wp2_with (go_at_call 9; refine (digit_no _ _ hd).mono ?_; rintro e w' ⟨rfl, rfl⟩)
            go_ret
            exact ⟨rfl, Below.refl _ _⟩
        · have HAD : Hid (∀ (j : Nat) (h : j < t.size), 48 ≤ t[j].toNat ∧ t[j].toNat ≤ 57) := hid (fun j hj => HR.out j hj (by omega))
          clear HR
          obtain ⟨ds, hds⟩ : ∃ ds, ds = strOfNums [(d.toNat : Int)] := ⟨_, rfl⟩
          have hcv : ∀ w : World, (convert 27 9 (.slice (some ⟨w.heap.size, 0, none⟩) 1 1)).run Tryd.prog (w.alloc (.cells #[.int .u8 (d.toNat : Int)] 5)) = .ok (.string ds) (w.alloc (.cells #[.int .u8 (d.toNat : Int)] 5)) := fun w => by
            rw [hds]
            exact run_convert_bytes_arg (P := Tryd.prog) _ 27 5 Tryd.underlying27 Tryd.underlying5 w.heap.size 0 1 1 [(d.toNat : Int)] rfl (fun i hi => by
              obtain rfl : i = 0 := by omega
              rw [cell_of_row _ _ _ _ _ _ (heap_alloc_new w _)]
              rfl) 9 Tryd.underlying9
          have hdz : ds.size ≤ 1 := by rw [hds, strOfNums_size]; simp
          have HCAT := hid (cat_one l d)
          rw [← hds] at HCAT
          clear hds
          have hc9 := cval_le (body l) 0 (by omega)
          by_cases h0 : t.size = 0
          · have H6 := hid (zz_no l w (by omega) (by rw [← HT.out]; exact fun h => by have := h.1; omega))
            have hemp := list_e t h0
            have HNIL : Hid (body l = []) := hid (by
              have := HT.out
              rw [this, S_size] at h0
              exact List.eq_nil_of_length_eq_zero h0)
            go_wp2_with fail
            refine H6.out.mono ?_
            rintro e w1 ⟨rfl, hb1⟩
            have HB1 := hid hb1
            clear hb1
            go_wp2_with fail
            rw [HCAT.out]
            by_cases hdg : 48 ≤ (d.toNat : Int) ∧ (d.toNat : Int) ≤ 57
            · have hall : (body l).all isDig = true := by rw [HNIL.out]; rfl
              have hdd : isDig d = true := by simp [isDig]; omega
              obtain ⟨eb, es⟩ := snoc_dig l d hdd
              have hv : cval 0 (body (l ++ [d])) = d.toNat - 48 := by
                rw [eb, HNIL.out, cval_snoc, cval_nil, clamp_small _ (by omega)]
                omega
              have H6b := zz_yes (l ++ [d]) (w1.alloc (.cells #[.int .u8 (d.toNat : Int)] 5)) (by simp; omega) (by rw [dg_iff, eb]; exact ⟨by simp, by rw [List.all_append, hall]; simp [hdd]⟩) ((HE.out.below HB1.out).below ((Below.refl _ _).alloc (Nat.le_refl _) _))
              rw [hv, es] at H6b
              refine H6b.mono ?_
              rintro e w2 ⟨rfl, hb2⟩
              have HB2 := hid (((HB1.out.alloc HB1.out.size _).trans (hb2.mono (by have := HB1.out.size; simp; omega))))
              clear hb2 H6b hv hall hdd eb es
              rcases sgn_cases l with hsg | hsg
              all_goals
                rw [hsg]
                go_wp2_with (go_at_call 9; refine (digit_yes _ _ hdg.1 hdg.2).mono ?_; rintro e w' ⟨rfl, rfl⟩)
                go_ret
                exact ⟨ret_true (beq_iff_eq.2 (by omega)), HB2.out⟩
            · have H6b := zz_no (l ++ [d]) (w1.alloc (.cells #[.int .u8 (d.toNat : Int)] 5)) (by simp; omega) (snoc_not l d (by simp [isDig]; omega))
              refine H6b.mono ?_
              rintro e w2 ⟨rfl, hb2⟩
              have HB2 := hid (((HB1.out.alloc HB1.out.size _).trans (hb2.mono (by have := HB1.out.size; simp; omega))))
              clear hb2 H6b
              rcases sgn_cases l with hsg | hsg
              all_goals
                rw [hsg]
                go_wp2_with (go_at_call 9; refine (digit_no _ _ hdg).mono ?_; rintro e w' ⟨rfl, rfl⟩)
                go_ret
                exact ⟨rfl, HB2.out⟩
          · have hdt : Dg (S (body l)) := by rw [← HT.out]; exact ⟨by omega, HAD.out⟩
            have H6 := hid (zz_yes l w (by omega) hdt HE.out)
            have hall := ((dg_iff _).1 hdt).2
            have hemp := list_ne t (by omega)
            have HALL := hid hall
            clear hall hdt
            go_wp2_with fail
            refine H6.out.mono ?_
            rintro e w1 ⟨rfl, hb1⟩
            have HB1 := hid hb1
            clear hb1 H6
            go_wp2_with fail
            rw [HCAT.out]
            by_cases hdg : 48 ≤ (d.toNat : Int) ∧ (d.toNat : Int) ≤ 57
            · have hdd : isDig d = true := by simp [isDig]; omega
              obtain ⟨eb, es⟩ := snoc_dig l d hdd
              have hv : cval 0 (body (l ++ [d])) = clamp (cval 0 (body l) * 10 + (d.toNat - 48)) := by rw [eb, cval_snoc]
              have H6b := zz_yes (l ++ [d]) (w1.alloc (.cells #[.int .u8 (d.toNat : Int)] 5)) (by simp; omega) (by rw [dg_iff, eb]; exact ⟨by simp, by rw [List.all_append, HALL.out]; simp [hdd]⟩) ((HE.out.below HB1.out).below ((Below.refl _ _).alloc (Nat.le_refl _) _))
              rw [hv, es] at H6b
              refine H6b.mono ?_
              rintro e w2 ⟨rfl, hb2⟩
              have HB2 := hid (((HB1.out.alloc HB1.out.size _).trans (hb2.mono (by have := HB1.out.size; simp; omega))))
              clear hb2 H6b hv hdd eb es
              generalize cval 0 (body l) = c at *
              by_cases hbig : 1000000000 < c * 10 + (d.toNat - 48)
              · rw [clamp_big _ hbig]
                rcases sgn_cases l with hsg | hsg
                all_goals
                  rw [hsg]
                  go_wp2_with (go_at_call 9; refine (digit_yes _ _ hdg.1 hdg.2).mono ?_; rintro e w' ⟨rfl, rfl⟩)
                  go_ret
                  exact ⟨rfl, HB2.out⟩
              · rw [clamp_small _ (by omega)]
                rcases sgn_cases l with hsg | hsg
                all_goals
                  rw [hsg]
                  go_wp2_with (go_at_call 9; refine (digit_yes _ _ hdg.1 hdg.2).mono ?_; rintro e w' ⟨rfl, rfl⟩)
                  go_ret
                  exact ⟨ret_true (beq_iff_eq.2 (by omega)), HB2.out⟩
            · have H6b := zz_no (l ++ [d]) (w1.alloc (.cells #[.int .u8 (d.toNat : Int)] 5)) (by simp; omega) (snoc_not l d (by simp [isDig]; omega))
              refine H6b.mono ?_
              rintro e w2 ⟨rfl, hb2⟩
              have HB2 := hid (((HB1.out.alloc HB1.out.size _).trans (hb2.mono (by have := HB1.out.size; simp; omega))))
              clear hb2 H6b
              generalize cval 0 (body l) = c at *
              rcases sgn_cases l with hsg | hsg
              all_goals
                rw [hsg]
                go_wp2_with (go_at_call 9; refine (digit_no _ _ hdg).mono ?_; rintro e w' ⟨rfl, rfl⟩)
                go_ret
                exact ⟨rfl, HB2.out⟩
end Go.Proofs.Qxb6619297aDoor
