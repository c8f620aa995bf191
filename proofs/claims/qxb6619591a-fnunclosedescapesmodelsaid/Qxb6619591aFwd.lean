import Derived.Test.Qxb6619591aModel
namespace Go.Proofs.Qxb6619591a
open Go.RowKit Pl

/-- places as cells -/
def ivs (l : List Nat) : List Value := l.map fun k : Nat => Value.int .i64 (k : Int)
theorem ivs_snoc (l : List Nat) (i : Nat) : ivs (l ++ [i]) = ivs l ++ [.int .i64 (i : Int)] := by simp [ivs]
theorem ivs_len (l : List Nat) : (ivs l).length = l.length := by simp [ivs]
theorem ivs_zs {w : World} {B : Nat} {v : Value} {l : List Nat} (h : w.ownsRow B 3 1 v l.length (ivs l)) : ∃ a c, v = .slice a l.length c ∧ Zs w a l.length (l.map (fun k : Nat => (k : Int))) := by
  have : ivs l = (l.map (fun k : Nat => (k : Int))).map (Value.int .i64) := by simp [ivs]
  rw [this] at h
  exact own_zs h

theorem fst_lt (s : List UInt8) (f k : Nat) : ∀ j ∈ fst s f k, j < f + k := by
  induction k with
  | zero => intro j hj; cases hj
  | succ k ih =>
    intro j hj
    change j ∈ fstep s (f + k) (fst s f k) at hj
    unfold fstep at hj
    split at hj
    · have := ih j (List.mem_of_mem_tail hj); omega
    · split at hj
      · have := ih j hj; omega
      · rcases List.mem_cons.1 hj with rfl | h
        · omega
        · have := ih j h; omega

theorem fst_succ (s : List UInt8) (f k : Nat) : fst s f (k + 1) = fstep s (f + k) (fst s f k) := rfl

theorem bt_none (s : ByteArray) (i : Nat) (h : ¬ i < s.size) : bt s.data.toList i = 0 := bt_out _ _ (by rw [list_len]; omega)

theorem ret_val {u v : Value} (h : u = v) : Ending.returned u = .returned v := by rw [h]

theorem rev_get (S : List Nat) (m j : Nat) (hj : j + m + 1 = S.length) (h : m < S.length) : (S.reverse.map (fun k : Nat => (k : Int))).getD j 0 = ((S[m] : Nat) : Int) := by
  have h2 : j < S.reverse.length := by simp; omega
  rw [List.getD, List.getElem?_map, List.getElem?_eq_getElem h2, List.getElem_reverse]
  simp only [Option.map_some, Option.getD_some]
  congr 2
  omega

/-- where 'open' lies -/
def Op (w wr : World) (v : Value) (S : List Nat) : Prop := wr.ownsRow w.heap.size 3 1 v S.length (ivs S.reverse) ∧ Below w.heap.size w wr

set_option maxHeartbeats 2000000 in
set_option maxRecDepth 100000 in
theorem fwd_any (s : ByteArray) (f : Nat) (w : World) (hs : s.size ≤ 200000) (hf : f ≤ 9223372036854775807) :
    Calls Try.prog 9 #[.string s, .int .i64 f] w fun e w' => ∃ a' c', e = .returned (.slice a' (fil s.data.toList f (fst s.data.toList f (s.size - f))).length c') ∧ Zs w' a' (fil s.data.toList f (fst s.data.toList f (s.size - f))).length ((fil s.data.toList f (fst s.data.toList f (s.size - f))).map (fun k : Nat => (k : Int))) ∧ Below w.heap.size w w' := by
  obtain ⟨i3, hi, hi0, hi1, hi2⟩ := info_parts info3
  go_enter Try.func9, Try.ntmps9
  go_wp2
  go_loopw [5, 6] (fun v p wr => ∃ (k : Nat), k ≤ s.size - f ∧ p = .int .i64 ((f + k : Nat) : Int) ∧ Hid (Op w wr v (fst s.data.toList f k))) (fun _ p _ => (s.size - (intOf p).toNat))
  case atStart => exact ⟨0, Nat.zero_le _, rfl, hid ⟨World.ownsRow_nil w w.heap.size 3 1, Below.refl _ _⟩⟩
  case round =>
    obtain ⟨k, hk, rfl, HO⟩ := hrel
    have hlen := fst_len s.data.toList f k
    by_cases hlt : k < s.size - f
    · obtain ⟨i, hi'⟩ : ∃ i, i = f + k := ⟨_, rfl⟩
      rw [← hi']
      have his : i < s.size := by omega
      have HST : Hid (fst s.data.toList f (k + 1) = fstep s.data.toList i (fst s.data.toList f k)) := hid (by rw [fst_succ, hi'])
      have HI := hid hi'
      clear hi'
      obtain ⟨S, hS⟩ : ∃ S, S = fst s.data.toList f k := ⟨_, rfl⟩
      rw [← hS] at HO hlen HST
      clear hS
      by_cases h1 : s[i].toNat = 125
      · have g1 : ((s[i].toNat : Int) == 125) = true := beq_iff_eq.2 (by omega)
        have HN : Hid (fst s.data.toList f (k + 1) = S.tail) := hid (by
          rw [HST.out]; unfold fstep; rw [if_pos (by rw [bt_get s i his]; exact h1)])
        clear h1 HST
        cases S with
        | nil =>
          obtain ⟨a, c, hv⟩ : ∃ a c, u5 = .slice a 0 c := by
            obtain ⟨a, c, hv, _⟩ := ivs_zs (l := ([] : List Nat)) HO.out.1
            exact ⟨a, c, hv⟩
          subst hv
          go_wp2
          go_roundw
          case rel =>
            have hI := HI.out
            exact ⟨k + 1, by omega, by rw [show ((f + (k + 1) : Nat) : Int) = (i : Int) + 1 from by omega], hid (by rw [HN.out]; exact HO.out)⟩
          case measure => (simp [intOf]; omega)
        | cons x S =>
          obtain ⟨g, cap, hv, hcap⟩ : ∃ g cap, u5 = .slice (some ⟨g, 0, none⟩) (S.length + 1) cap ∧ S.length + 1 ≤ cap := by
            rcases HO.out.1.2 with ⟨_, h0⟩ | ⟨g, cap, cur, hv, _, _, hc, _⟩
            · simp at h0
            · exact ⟨g, cap, by simpa using hv, by simpa using hc⟩
          subst hv
          have HP : Hid (wr.ownsRow w.heap.size 3 1 (.slice (some ⟨g, 0, none⟩) S.length cap) S.length (ivs S.reverse)) := hid (by
            have h := HO.out.1
            rw [List.reverse_cons, ivs_snoc] at h
            exact ownsRow_pop (by rw [ivs_len, List.length_reverse]; omega) h)
          have HBL := hid HO.out.2
          have hm : S.length ≤ 200000 := by simp at hlen; omega
          clear HO hlen
          generalize hSl : S.length = m at *
          have HSL := hid hSl
          clear hSl
          go_wp2
          go_roundw
          case rel =>
            have hI := HI.out
            refine ⟨k + 1, by omega, by rw [show ((f + (k + 1) : Nat) : Int) = (i : Int) + 1 from by omega], hid ?_⟩
            rw [HN.out]
            exact ⟨by rw [List.tail_cons, HSL.out]; exact HP.out, HBL.out⟩
          case measure => (simp [intOf]; omega)
      · have g1 : ((s[i].toNat : Int) == 125) = false := beq_eq_false_iff_ne.2 (by omega)
        have hstill : opn s.data.toList i = false → fst s.data.toList f (k + 1) = S := fun h2 => by
          rw [HST.out]; unfold fstep; rw [if_neg (by rw [bt_get s i his]; exact h1), if_pos h2]
        by_cases h2 : s[i].toNat = 38
        · have g2 : ((s[i].toNat : Int) == 38) = true := beq_iff_eq.2 (by omega)
          by_cases h3 : i + 1 < s.size
          · have g3 : (i : Int) + 1 < (s.size : Int) := by omega
            by_cases h4 : s[i + 1].toNat = 123
            · have g4 : ((s[i + 1].toNat : Int) == 123) = true := beq_iff_eq.2 (by omega)
              have HN : Hid (fst s.data.toList f (k + 1) = i :: S) := hid (by
                rw [HST.out]; unfold fstep
                rw [if_neg (by rw [bt_get s i his]; exact h1), if_neg]
                unfold opn
                rw [bt_get s i his, bt_get s (i + 1) h3, h2, h4]
                simp)
              have HP := hid (HO.out.1.alloc (.cells #[.int .i64 (i : Int)] 3))
              have HBL := hid HO.out.2
              have hm : S.length ≤ 200000 := by omega
              have HOW := hid HO.out.1
              clear HO hlen h1 h2 h4 hstill HST
              go_wp2_with (at_builtin; refine wpList_append_own _ rfl _ _ 22 rfl w.heap.size 3 i3 (.int .i64 0) 1 8 Try.underlying22 hi hi0 hi1 hi2 rfl (by omega) _ S.length (ivs S.reverse) rfl HP.out _ 1 1 [.int .i64 (i : Int)] rfl rfl (cell_one_new _ _ _) (one_cell _) (by unfold maxLen; omega) (by omega) (by have := HBL.out.size; simp; omega) ?_)
              intro v' w2 hown hgr _
              have HO2 := hid hown
              have HG := hid hgr
              clear hown hgr
              go_wp2
              go_roundw
              case rel =>
                have hI := HI.out
                refine ⟨k + 1, by omega, by rw [show ((f + (k + 1) : Nat) : Int) = (i : Int) + 1 from by omega], hid ?_⟩
                rw [HN.out]
                refine ⟨?_, ?_⟩
                · rw [List.reverse_cons, ivs_snoc]
                  exact HO2.out
                · exact Below.grown (HBL.out.alloc HBL.out.size _) HG.out (by have := HBL.out.size; simp; omega) (fun k hk => (HOW.out.lt k hk).1)
              case measure => (simp [intOf]; omega)
            · have g4 : ((s[i + 1].toNat : Int) == 123) = false := beq_eq_false_iff_ne.2 (by omega)
              have HN := hid (hstill (by unfold opn; rw [bt_get s (i + 1) h3, decide_eq_false h4, Bool.and_false]))
              clear h1 h2 h4 hstill
              go_wp2
              go_roundw
              case rel =>
                have hI := HI.out
                exact ⟨k + 1, by omega, by rw [show ((f + (k + 1) : Nat) : Int) = (i : Int) + 1 from by omega], hid (by rw [HN.out]; exact HO.out)⟩
              case measure => (simp [intOf]; omega)
          · have g3 : ¬ (i : Int) + 1 < (s.size : Int) := by omega
            have HN := hid (hstill (by unfold opn; rw [bt_none s (i + 1) h3]; simp))
            clear h1 h2 hstill
            go_wp2
            go_roundw
            case rel =>
              have hI := HI.out
              exact ⟨k + 1, by omega, by rw [show ((f + (k + 1) : Nat) : Int) = (i : Int) + 1 from by omega], hid (by rw [HN.out]; exact HO.out)⟩
            case measure => (simp [intOf]; omega)
        · have g2 : ((s[i].toNat : Int) == 38) = false := beq_eq_false_iff_ne.2 (by omega)
          have HN := hid (hstill (by unfold opn; rw [bt_get s i his, decide_eq_false h2, Bool.false_and]))
          clear h1 h2 hstill
          go_wp2
          go_roundw
          case rel =>
            have hI := HI.out
            exact ⟨k + 1, by omega, by rw [show ((f + (k + 1) : Nat) : Int) = (i : Int) + 1 from by omega], hid (by rw [HN.out]; exact HO.out)⟩
          case measure => (simp [intOf]; omega)
    · have hke : k = s.size - f := by omega
      have g6 : ¬ ((f + k : Nat) : Int) < (s.size : Int) := by omega
      obtain ⟨S, hS⟩ : ∃ S, S = fst s.data.toList f k := ⟨_, rfl⟩
      have HSF : Hid (S = fst s.data.toList f (s.size - f)) := hid (by rw [← hke]; exact hS)
      rw [← hS] at HO hlen
      have HLT : Hid (∀ j ∈ S, j < s.size) := hid (fun j hj => by
        rw [hS] at hj
        have a1 := fst_lt s.data.toList f k j hj
        by_cases h0 : k = 0
        · subst h0; cases hj
        · omega)
      clear hke hS
      obtain ⟨a, c, hv, hzz⟩ : ∃ a c, u5 = .slice a S.length c ∧ Zs wr a S.length (S.reverse.map (fun k : Nat => (k : Int))) := by
        have h := HO.out.1
        rw [← List.length_reverse] at h
        obtain ⟨a, c, hv, hz⟩ := ivs_zs h
        rw [List.length_reverse] at hv hz
        exact ⟨a, c, hv, hz⟩
      subst hv
      have HZ := hid hzz
      have HBL := hid HO.out.2
      clear HO hzz
      have hm : S.length ≤ 200000 := by omega
      clear hlen
      go_wp2
      go_loopw [7, 8] (fun v j w2 => ∃ m : Nat, m ≤ S.length ∧ j = .int .i64 ((S.length : Int) - 1 - (m : Int)) ∧ Hid (w2.ownsRow wr.heap.size 3 1 v (fil s.data.toList f (S.take m)).length (ivs (fil s.data.toList f (S.take m))) ∧ Below wr.heap.size wr w2)) (fun _ j _ => (intOf j + 1).toNat)
      case atStart =>
        refine ⟨0, Nat.zero_le _, ?_, hid ⟨World.ownsRow_nil wr wr.heap.size 3 1, Below.refl _ _⟩⟩
        simp
      case round =>
        rename World => w2
        obtain ⟨m, hmS, rfl, HF⟩ := hrel
        by_cases hlt2 : m < S.length
        · obtain ⟨j, hj⟩ : ∃ j, j + m + 1 = S.length := ⟨S.length - 1 - m, by omega⟩
          have hj1 : (S.length : Int) - 1 - (m : Int) = (j : Int) := by omega
          rw [hj1]
          have HJ := hid hj
          clear hj1
          have hx := HLT.out _ (List.getElem_mem hlt2)
          obtain ⟨b, o, rfl, hc⟩ := HZ.out.cells (by omega)
          have gx := hc j (by omega)
          rw [rev_get S m j hj hlt2] at gx
          have gxx := HF.out.2.cell (World.block_lt_of_cell? wr _ gx)
          rw [gx] at gxx
          have HTK : Hid (S.take (m + 1) = S.take m ++ [S[m]]) := hid (List.take_succ_eq_append_getElem hlt2)
          generalize S[m] = q at *
          have hjl : (j : Int) < (S.length : Int) := by omega
          clear hc gx hj
          by_cases hqf : f < q
          · have g7 : (f : Int) < (q : Int) := by omega
            obtain ⟨r, rfl⟩ : ∃ r, q = r + 1 := ⟨q - 1, by omega⟩
            have hrs : r < s.size := by omega
            by_cases h5 : s[r].toNat = 92
            · have g5 : ((s[r].toNat : Int) == 92) = true := beq_iff_eq.2 (by omega)
              have HN : Hid (fil s.data.toList f (S.take (m + 1)) = fil s.data.toList f (S.take m) ++ [r]) := hid (by
                rw [HTK.out, fil_snoc, if_pos]
                · rfl
                · unfold esc
                  rw [Nat.add_sub_cancel, bt_get s r hrs, h5, decide_eq_true hqf]
                  rfl)
              have HP := hid (HF.out.1.alloc (.cells #[.int .i64 (r : Int)] 3))
              have HB2 := hid HF.out.2
              have HOW := hid HF.out.1
              have hfl : (fil s.data.toList f (S.take m)).length ≤ 200000 := by
                have a1 := fil_len s.data.toList f (S.take m)
                rw [List.length_take] at a1
                omega
              clear h5 HF
              generalize hFF : fil s.data.toList f (S.take m) = F at *
              clear hFF
              go_wp2_with (at_builtin; refine wpList_append_own _ rfl _ _ 22 rfl wr.heap.size 3 i3 (.int .i64 0) 1 8 Try.underlying22 hi hi0 hi1 hi2 rfl (by omega) _ F.length (ivs F) rfl HP.out _ 1 1 [.int .i64 (r : Int)] rfl rfl (cell_one_new _ _ _) (one_cell _) (by unfold maxLen; omega) (by omega) (by have := HB2.out.size; simp; omega) ?_)
              intro v' w3 hown hgr _
              have HO2 := hid hown
              have HG := hid hgr
              clear hown hgr
              go_wp2
              go_roundw
              case rel =>
                have hJ := HJ.out
                refine ⟨m + 1, by omega, ?_, hid ?_⟩
                · rw [show (S.length : Int) - 1 - ((m + 1 : Nat) : Int) = (j : Int) - 1 from by omega]
                · rw [HN.out, ivs_snoc, List.length_append]
                  exact ⟨HO2.out, Below.grown (HB2.out.alloc HB2.out.size _) HG.out (by have := HB2.out.size; simp; omega) (fun k hk => (HOW.out.lt k hk).1)⟩
              case measure => (simp [intOf]; try omega)
            · have g5 : ((s[r].toNat : Int) == 92) = false := beq_eq_false_iff_ne.2 (by omega)
              have HN : Hid (fil s.data.toList f (S.take (m + 1)) = fil s.data.toList f (S.take m)) := hid (by
                rw [HTK.out, fil_snoc, if_neg]
                unfold esc
                rw [Nat.add_sub_cancel, bt_get s r hrs, decide_eq_false h5, Bool.and_false]
                simp)
              clear h5
              go_wp2
              go_roundw
              case rel =>
                have hJ := HJ.out
                refine ⟨m + 1, by omega, ?_, hid (by rw [HN.out]; exact HF.out)⟩
                rw [show (S.length : Int) - 1 - ((m + 1 : Nat) : Int) = (j : Int) - 1 from by omega]
              case measure => (simp [intOf]; try omega)
          · have g7 : ¬ (f : Int) < (q : Int) := by omega
            have HN : Hid (fil s.data.toList f (S.take (m + 1)) = fil s.data.toList f (S.take m)) := hid (by
              rw [HTK.out, fil_snoc, if_neg]
              unfold esc
              rw [decide_eq_false hqf, Bool.false_and]
              simp)
            go_wp2
            go_roundw
            case rel =>
              have hJ := HJ.out
              refine ⟨m + 1, by omega, ?_, hid (by rw [HN.out]; exact HF.out)⟩
              rw [show (S.length : Int) - 1 - ((m + 1 : Nat) : Int) = (j : Int) - 1 from by omega]
            case measure => (simp [intOf]; try omega)
        · have g8 : ¬ (0 : Int) ≤ (S.length : Int) - 1 - (m : Int) := by omega
          obtain rfl : m = S.length := by omega
          go_wp2
          go_ret
          have hF := HF.out
          rw [List.take_length, HSF.out] at hF
          obtain ⟨a', c', hv', hz'⟩ := ivs_zs hF.1
          exact ⟨a', ⟨c', ret_val hv'⟩, hz', HBL.out.trans (hF.2.mono HBL.out.size)⟩
end Go.Proofs.Qxb6619591a
