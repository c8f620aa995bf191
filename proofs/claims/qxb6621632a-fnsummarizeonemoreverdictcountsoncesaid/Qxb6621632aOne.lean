import Derived.Test.Qxb6621632aVerd
namespace Go.Proofs.Qxb6621632a
open Go.RowKit

/-- the verdicts' cells in a row -/
def vrow (s : ByteArray) : List Value := [.string ⟨#[]⟩, .string s, .string ⟨#[]⟩, .slice none 0 0]
def vflat (l : List ByteArray) : List Value := l.flatMap vrow
theorem vflat_len (l : List ByteArray) : (vflat l).length = l.length * 4 := by
  induction l with
  | nil => rfl
  | cons s l ih =>
    show (vrow s ++ vflat l).length = _
    rw [List.length_append, ih, List.length_cons]
    show 4 + _ = _
    omega
theorem vflat_snoc (l : List ByteArray) (s : ByteArray) : vflat (l ++ [s]) = vflat l ++ vrow s := by
  unfold vflat
  rw [List.flatMap_append]
  simp
theorem vflat_get (l : List ByteArray) : ∀ i j, i < l.length → j < 4 → (vflat l)[i * 4 + j]? = some (vcell (l.getD i ByteArray.empty) j) := by
  induction l with
  | nil => intro i j hi; simp at hi
  | cons s l ih =>
    intro i j hi hj
    show (vrow s ++ vflat l)[i * 4 + j]? = _
    cases i with
    | zero =>
      rw [List.getElem?_append_left (by show 0 * 4 + j < 4; omega), Nat.zero_mul, Nat.zero_add]
      have hj' : j = 0 ∨ j = 1 ∨ j = 2 ∨ j = 3 := by omega
      rcases hj' with rfl | rfl | rfl | rfl <;> rfl
    | succ i =>
      rw [List.getElem?_append_right (by show 4 ≤ _; omega), show (i + 1) * 4 + j - (vrow s).length = i * 4 + j from by show (i + 1) * 4 + j - 4 = _; omega, ih i j (by simp at hi; omega) hj]
      rfl

theorem own_vs {w : World} {B g n cap : Nat} {l : List ByteArray} (hl : l.length = n) (h : w.ownsRow B 51 4 (.slice (some ⟨g, 0, none⟩) n cap) n (vflat l)) : Vs w (some ⟨g, 0, none⟩) n l :=
  ⟨hl, fun _ => ⟨g, 0, rfl, fun i hi j hj => by
    have := h.cells (g := g) rfl (i * 4 + j) _ (vflat_get l i j (by omega) hj)
    rw [Addr.add_lit] at this
    rw [Nat.add_assoc]
    exact this⟩⟩

theorem vrow_one (s : ByteArray) : ∀ u ∈ vrow s, u.oneCell' = true := by
  intro u hu
  rcases List.mem_cons.1 hu with rfl | hu
  · rfl
  rcases List.mem_cons.1 hu with rfl | hu
  · rfl
  rcases List.mem_cons.1 hu with rfl | hu
  · rfl
  rw [List.mem_singleton.1 hu]
  rfl

/-- the summary's box, three cells -/
def Box (w : World) (g : Nat) (e f n : Nat) : Prop := w.heap[g]? = some (.cells #[.int .i64 (e : Int), .int .i64 (f : Int), .int .i64 (n : Int)] 27 (0, 0))

theorem Box.below {w w' : World} {g e f n B : Nat} (h : Box w g e f n) (hb : Below B w w') (hg : g < B) : Box w' g e f n := by
  unfold Box at h ⊢
  rw [hb.block g hg]
  exact h

theorem one_row (w : World) (s : ByteArray) : ∀ j u, (vrow s)[j]? = some u → (w.alloc (.cells #[.string ⟨#[]⟩, .string s, .string ⟨#[]⟩, .slice none 0 0] 51)).cell? ((⟨w.heap.size, 0, none⟩ : Addr).add j) = some u := by
  intro j u hu
  rw [Addr.add_lit, Nat.zero_add, cell_of_row _ _ _ _ _ _ (heap_alloc_new w _), ← hu]
  simp [vrow]

theorem drop_snoc (l : List ByteArray) (j m : Nat) (h : j + m < l.length) : (l.drop j).take (m + 1) = (l.drop j).take m ++ [l.getD (j + m) ByteArray.empty] := by
  have := take_snoc (l.drop j) m (by rw [List.length_drop]; omega)
  rw [this]
  congr 2
  simp [List.getD, List.getElem?_drop]

theorem ret_true {b : Bool} (h : b = true) : Ending.returned (.bool b) = .returned (.bool true) := by rw [h]

/-- 'with' in the making: the row G, behind the box of the first summary -/
structure St (w : World) (G n : Nat) (e f g : Nat) (l : List ByteArray) (wr : World) : Prop where
  own : wr.ownsRow (G + 1) 51 4 (.slice (some ⟨G + 1, 0, none⟩) l.length (n + 1)) l.length (vflat l)
  box : Box wr G e f g
  bel : Below w.heap.size w wr
  low : w.heap.size ≤ G
  sz : G + 1 < wr.heap.size

theorem St.step {w : World} {G n e f g : Nat} {l : List ByteArray} {wr w' : World} {s : ByteArray} {o : Obj} (h : St w G n e f g l wr)
    (ho : w'.ownsRow (G + 1) 51 4 (.slice (some ⟨G + 1, 0, none⟩) (l.length + 1) (n + 1)) (l.length + 1) (vflat l ++ vrow s)) (hg : (wr.alloc o).grownBy w' (some (G + 1))) : St w G n e f g (l ++ [s]) w' := by
  have hb1 : Below (G + 1) wr w' := Below.grown ((Below.refl _ _).alloc (by have := h.sz; omega) o) hg (by have := h.sz; simp; omega) (by intro k hk; simp at hk; omega)
  refine ⟨?_, h.box.below hb1 (Nat.lt_succ_self _), h.bel.trans (hb1.mono (by have := h.low; omega)), h.low, Nat.lt_of_lt_of_le h.sz hb1.size⟩
  rw [List.length_append, vflat_snoc]
  exact ho

set_option maxHeartbeats 4000000 in
set_option maxRecDepth 100000 in
theorem one_in (a : Option Addr) (n c k : Nat) (q : ByteArray) (ss : List ByteArray) (w : World) (hn : n ≤ 65536) (hq : q.size ≤ 9223372036854775807) (hz : Ss w a n ss) (ha : a = none → n = 0) (hk : k ≤ n) :
    Calls Try.prog 6 #[.slice a n c, .int .i64 k, .string q] w fun e w' => e = .returned (.bool true) ∧ Below w.heap.size w w' := by
  have H15 := hid (size6_any a n c k q hq ss w (by omega) hz)
  have H8 := hid (fit_any a n c q ss w hn hz)
  have e1 : decide ((k : Int) < 0) = false := by simp
  have e2 : ¬ (n : Int) < (k : Int) := by omega
  obtain ⟨i51, hi, hi0, hi1, hi2⟩ := info_parts info51
  have hmk : ∀ w : World, (Instr.makeSlice 29 (.int .i64 0) (.int .i64 ((n : Int) + 1))).run Try.prog w = .ok (.slice (some ⟨w.heap.size, 0, none⟩) 0 (n + 1)) (w.alloc (.cells (madeCells vzero.cells ((n + 1) * 4)) 51)) := by
    intro w
    have := run_make (P := Try.prog) w 29 51 i51 vzero Try.underlying29 hi hi0 .i64 .i64 0 (n + 1) (by omega) (by omega) (by rw [hi2]; omega) (by omega)
    rw [hi1, show ((n : Int) + 1).toNat = n + 1 from by omega] at this
    simpa using this
  obtain ⟨M, hM⟩ : ∃ M, M = madeCells vzero.cells ((n + 1) * 4) := ⟨_, rfl⟩
  have HMS : Hid (M.size = (n + 1) * 4) := hid (by rw [hM, size_madeCells])
  rw [← hM] at hmk
  clear hM
  have HZ := hid hz
  have HA := hid ha
  clear hz ha
  go_enter Try.func6, Try.ntmps6
  go_wp2_with fail
  refine H15.out.mono ?_
  rintro e w' ⟨⟨bb, rfl⟩, rfl⟩
  cases bb
  · go_wp2
    go_ret
    exact ⟨rfl, Below.refl _ _⟩
  go_wp2_with fail
  refine H8.out.mono ?_
  rintro e w'' ⟨⟨bb, rfl⟩, rfl⟩
  cases bb
  · go_wp2
    go_ret
    exact ⟨rfl, Below.refl _ _⟩
  rename World => w
  go_wp2_with fail
  refine (verd_all a n c ss w hn HZ.out HA.out).mono ?_
  rintro e w1 ⟨a1, rfl, hv1, _, hb1⟩
  have HV1 := hid hv1
  have HB1 := hid hb1
  clear hv1 hb1 H15 H8
  go_wp2_with fail
  refine (sum_any a1 n n ss w1 (by omega) HV1.out).mono ?_
  rintro e w2 ⟨rfl, hb2⟩
  have HB2 := hid (HB1.out.trans (hb2.mono HB1.out.size))
  clear hb2 HB1 HV1
  have HST : Hid (St w w2.heap.size n (cE ss) (cW ss) (cN ss) (ss.take 0) ((w2.alloc (.cells #[.int .i64 (cE ss : Int), .int .i64 (cW ss : Int), .int .i64 (cN ss : Int)] 27)).alloc (.cells M 51))) := hid (by
    have hs2 := HB2.out.size
    refine ⟨?_, ?_, (HB2.out.alloc hs2 _).alloc (by simp; omega) _, hs2, by simp⟩
    · have h := World.ownsRow_made (base := w2.heap.size + 1) (e := 51) (size := 4) (w2.alloc (.cells #[.int .i64 (cE ss : Int), .int .i64 (cW ss : Int), .int .i64 (cN ss : Int)] 27)) M (n + 1) (by simp) (by unfold maxLen; omega) HMS.out
      rw [World.size_alloc] at h
      exact h
    · unfold Box
      rw [Below.heap_alloc _ _ _ (by simp), heap_alloc_new])
  have HL := hid HZ.out.len
  clear HB2
  go_wp2_with fail
  go_loopw [8, 9] (fun v i wr => ∃ j : Nat, j ≤ k ∧ i = .int .i64 j ∧ v = .slice (some ⟨w2.heap.size + 1, 0, none⟩) j (n + 1) ∧ Hid (St w w2.heap.size n (cE ss) (cW ss) (cN ss) (ss.take j) wr)) (fun _ i _ => k - (intOf i).toNat)
  case atStart => exact ⟨0, Nat.zero_le _, rfl, rfl, HST⟩
  case round =>
    obtain ⟨j, hj, rfl, rfl, HS⟩ := hrel
    clear HST
    by_cases hlt : j < k
    · obtain ⟨b, o, rfl, hc⟩ := (HZ.out.below HS.out.bel).cells (by omega)
      have g := hc j (by omega)
      have hjl : (ss.take j).length = j := by rw [List.length_take, HL.out]; omega
      have HOA := hid (HS.out.own.alloc (.cells #[.string ⟨#[]⟩, .string (ss.getD j ByteArray.empty), .string ⟨#[]⟩, .slice none 0 0] 51))
      rw [hjl] at HOA
      have HTK := hid (take_snoc ss j (by rw [HL.out]; omega))
      have HJL := hid hjl
      generalize ss.getD j ByteArray.empty = s at *
      have HRW := hid (one_row wr s)
      have hjn : (j : Int) < (n : Int) := by omega
      clear hc hjl
      go_wp2_with (at_builtin; refine wpList_append_fits _ rfl _ _ 29 rfl (w2.heap.size + 1) 51 i51 4 Try.underlying29 hi hi1 (w2.heap.size + 1) j (n + 1) (vflat (ss.take j)) rfl HOA.out _ 1 1 (vrow s) rfl rfl HRW.out (vrow_one s) (by omega) ?_)
      intro w3 hown hgr
      have HO3 := hid hown
      have HG3 := hid hgr
      clear hown hgr
      go_wp2
      go_roundw
      case rel => exact ⟨j + 1, by omega, by go_num, rfl, hid (by rw [HTK.out]; exact HS.out.step (by rw [HJL.out]; exact HO3.out) HG3.out)⟩
      case measure => (simp [intOf]; omega)
    · obtain rfl : j = k := by omega
      have hjl : (ss.take j).length = j := by rw [List.length_take, HL.out]; omega
      have HOA := hid (HS.out.own.alloc (.cells #[.string ⟨#[]⟩, .string q, .string ⟨#[]⟩, .slice none 0 0] 51))
      rw [hjl] at HOA
      have HJL := hid hjl
      have HRW := hid (one_row wr q)
      clear hjl
      go_wp2_with (at_builtin; refine wpList_append_fits _ rfl _ _ 29 rfl (w2.heap.size + 1) 51 i51 4 Try.underlying29 hi hi1 (w2.heap.size + 1) j (n + 1) (vflat (ss.take j)) rfl HOA.out _ 1 1 (vrow q) rfl rfl HRW.out (vrow_one q) (by omega) ?_)
      intro w3 hown hgr
      have HST : Hid (St w w2.heap.size n (cE ss) (cW ss) (cN ss) (ss.take j ++ [q] ++ (ss.drop j).take 0) w3) := hid (by
        rw [List.take_zero, List.append_nil]
        exact HS.out.step (by rw [HJL.out]; exact hown) hgr)
      clear hown hgr HS HOA HJL HRW
      go_wp2
      go_loopw [8, 10] (fun v i wr => ∃ m : Nat, j + m ≤ n ∧ i = .int .i64 ((j : Int) + (m : Int)) ∧ v = .slice (some ⟨w2.heap.size + 1, 0, none⟩) (j + 1 + m) (n + 1) ∧ Hid (St w w2.heap.size n (cE ss) (cW ss) (cN ss) (ss.take j ++ [q] ++ (ss.drop j).take m) wr)) (fun _ i _ => n - (intOf i).toNat)
      case atStart =>
        refine ⟨0, by omega, ?_, rfl, HST⟩
        simp
      case round =>
        rename World => wr
        obtain ⟨m, hm, rfl, rfl, HS⟩ := hrel
        clear HST
        by_cases hlt2 : j + m < n
        · obtain ⟨b, o, rfl, hc⟩ := (HZ.out.below HS.out.bel).cells (by omega)
          have g := hc (j + m) hlt2
          have hjl : (ss.take j ++ [q] ++ (ss.drop j).take m).length = j + 1 + m := by
            simp [HL.out]
            omega
          have HOA := hid (HS.out.own.alloc (.cells #[.string ⟨#[]⟩, .string (ss.getD (j + m) ByteArray.empty), .string ⟨#[]⟩, .slice none 0 0] 51))
          rw [hjl] at HOA
          have HTK := hid (drop_snoc ss j m (by rw [HL.out]; omega))
          have HJL := hid hjl
          generalize ss.getD (j + m) ByteArray.empty = s at *
          have HRW := hid (one_row wr s)
          have hjn : (j : Int) + (m : Int) < (n : Int) := by omega
          clear hc hjl
          go_wp2_with (at_builtin; refine wpList_append_fits _ rfl _ _ 29 rfl (w2.heap.size + 1) 51 i51 4 Try.underlying29 hi hi1 (w2.heap.size + 1) (j + 1 + m) (n + 1) (vflat (ss.take j ++ [q] ++ (ss.drop j).take m)) rfl HOA.out _ 1 1 (vrow s) rfl rfl HRW.out (vrow_one s) (by omega) ?_)
          intro w4 hown hgr
          have HO3 := hid hown
          have HG3 := hid hgr
          clear hown hgr
          go_wp2
          go_roundw
          case rel =>
            refine ⟨m + 1, by omega, ?_, rfl, hid ?_⟩
            · rw [show (j : Int) + ((m + 1 : Nat) : Int) = (j : Int) + (m : Int) + 1 from by omega]
            · rw [HTK.out, ← List.append_assoc]
              exact HS.out.step (by
                have h := HO3.out
                rw [show List.take j ss ++ q :: List.take m (List.drop j ss) = List.take j ss ++ [q] ++ List.take m (List.drop j ss) from by simp] at h
                rw [HJL.out]
                exact h) HG3.out
          case measure => (simp [intOf]; omega)
        · have hmn : j + m = n := by omega
          have hlist : ss.take j ++ [q] ++ (ss.drop j).take m = ss.take j ++ [q] ++ ss.drop j := by
            rw [List.take_of_length_le (l := ss.drop j) (by rw [List.length_drop, HL.out]; omega)]
          rw [hlist] at HS
          have hln : (ss.take j ++ [q] ++ ss.drop j).length = n + 1 := by
            simp [HL.out]
            omega
          have hown := HS.out.own
          rw [hln] at hown
          have HVS := hid (own_vs hln hown)
          have xe : cE (ss.take j ++ [q] ++ ss.drop j) = cE ss + if sevE q = true then 1 else 0 := by
            rw [cE_app, cE_snoc]
            have := cE_app (ss.take j) (ss.drop j)
            rw [List.take_append_drop] at this
            omega
          have xw : cW (ss.take j ++ [q] ++ ss.drop j) = cW ss + if sevW q = true then 1 else 0 := by
            rw [cW_app, cW_snoc]
            have := cW_app (ss.take j) (ss.drop j)
            rw [List.take_append_drop] at this
            omega
          have xn : cN (ss.take j ++ [q] ++ ss.drop j) = cN ss + if sevN q = true then 1 else 0 := by
            rw [cN_app, cN_snoc]
            have := cN_app (ss.take j) (ss.drop j)
            rw [List.take_append_drop] at this
            omega
          have H9 := sum_any (some ⟨w2.heap.size + 1, 0, none⟩) (n + 1) (n + 1) _ wr (by omega) HVS.out
          rw [xe, xw, xn] at H9
          have H9 := hid H9
          have be := cE_le ss
          have bw := cW_le ss
          have bn := cN_le ss
          rw [HL.out] at be bw bn
          have HBX := hid HS.out.box
          have HBL := hid HS.out.bel
          have HSZ := hid HS.out.sz
          have hnj : ¬ (j : Int) + (m : Int) < (n : Int) := by omega
          have hjm : j + 1 + m = n + 1 := by omega
          rw [hjm]
          clear hlist hln hown xe xw xn HS HVS hmn hjm
          go_wp2_with fail
          refine H9.out.mono ?_
          rintro e w5 ⟨rfl, hb5⟩
          have hbx := HBX.out.below hb5 (Nat.lt_of_succ_lt HSZ.out)
          have HB5 := hid (HBL.out.trans (hb5.mono HBL.out.size))
          have hz5 : w2.heap.size < w5.heap.size := Nat.lt_of_lt_of_le (Nat.lt_of_succ_lt HSZ.out) hb5.size
          generalize cE ss = e1 at *
          generalize cW ss = e2 at *
          generalize cN ss = e3 at *
          have b0 := cell_of_row _ _ 0 _ _ _ hbx
          have b1 := cell_of_row _ _ 1 _ _ _ hbx
          have b2 := cell_of_row _ _ 2 _ _ _ hbx
          simp at b0 b1 b2
          clear hb5 hbx HBX HBL HSZ H9
          by_cases h1 : sevE q = true
          · obtain ⟨h2, h3⟩ := e_not_w q h1
            rw [if_pos h1, if_neg (by rw [h2]; simp), if_neg (by rw [h3]; simp)]
            unfold sevE at h1
            clear h2 h3
            go_wp2
            go_ret
            exact ⟨rfl, HB5.out.alloc HB5.out.size _⟩
          · have h1 : sevE q = false := by simpa using h1
            rw [if_neg (by rw [h1]; simp)]
            by_cases h2 : sevW q = true
            · have h3 := (w_not_e q h2).2
              rw [if_pos h2, if_neg (by rw [h3]; simp)]
              unfold sevE at h1
              unfold sevW at h2
              clear h3
              go_wp2
              go_ret
              exact ⟨rfl, HB5.out.alloc HB5.out.size _⟩
            · have h2 : sevW q = false := by simpa using h2
              rw [if_neg (by rw [h2]; simp)]
              by_cases h3 : sevN q = true
              · rw [if_pos h3]
                unfold sevE at h1
                unfold sevW at h2
                unfold sevN at h3
                go_wp2
                go_ret
                exact ⟨ret_true (beq_iff_eq.2 (by omega)), HB5.out.alloc HB5.out.size _⟩
              · have h3 : sevN q = false := by simpa using h3
                rw [if_neg (by rw [h3]; simp)]
                unfold sevE at h1
                unfold sevW at h2
                unfold sevN at h3
                go_wp2
                go_ret
                exact ⟨rfl, HB5.out.alloc HB5.out.size _⟩

set_option maxHeartbeats 1000000 in
set_option maxRecDepth 100000 in
theorem one_out (a : Option Addr) (n c : Nat) (x : Int) (q : ByteArray) (ss : List ByteArray) (w : World) (hn : n ≤ 9223372036854775807) (hq : q.size ≤ 9223372036854775807) (hz : Ss w a n ss) (h : 65536 < n ∨ x < 0 ∨ (n : Int) < x) :
    Calls Try.prog 6 #[.slice a n c, .int .i64 x, .string q] w fun e w' => e = .returned (.bool true) ∧ Below w.heap.size w w' := by
  have H15 := hid (size6_any a n c x q hq ss w hn hz)
  by_cases h1 : 65536 < n
  · clear h hz
    go_enter Try.func6, Try.ntmps6
    go_wp2_with fail
    refine H15.out.mono ?_
    rintro e w' ⟨⟨bb, rfl⟩, rfl⟩
    cases bb
    · go_wp2
      go_ret
      exact ⟨rfl, Below.refl _ _⟩
    go_wp2_with fail
    refine (fit_no _ _ _ _ _ h1).mono ?_
    rintro e w'' ⟨rfl, rfl⟩
    go_wp2
    go_ret
    exact ⟨rfl, Below.refl _ _⟩
  · have H8 := hid (fit_any a n c q ss w (by omega) hz)
    have hx : x < 0 ∨ (0 ≤ x ∧ (n : Int) < x) := by omega
    clear h hz
    rcases hx with hx | ⟨hx0, hx⟩
    all_goals
      go_enter Try.func6, Try.ntmps6
      go_wp2_with fail
      refine H15.out.mono ?_
      rintro e w' ⟨⟨bb, rfl⟩, rfl⟩
      cases bb
      · go_wp2
        go_ret
        exact ⟨rfl, Below.refl _ _⟩
      go_wp2_with fail
      refine H8.out.mono ?_
      rintro e w'' ⟨⟨bb, rfl⟩, rfl⟩
      cases bb
      · go_wp2
        go_ret
        exact ⟨rfl, Below.refl _ _⟩
      go_wp2
      go_ret
      exact ⟨rfl, Below.refl _ _⟩
end Go.Proofs.Qxb6621632a
