import Derived.Test.Qxb6619591aRows
import Derived.Test.Qxb6619591aShelf
import Derived.Test.Qxb6619591aPlain
import Derived.WalkKit
import Derived.ProofKit
import Derived.Below
import Derived.ArgAppend
import Derived.Deep.QuietTactic
import Derived.BigQuiet
import Derived.WalkLawsBesides
import Derived.WalkSpells
namespace Go.Proofs.Qxb6619591a
open Go.RowKit Pl

theorem hid {p : Prop} (h : p) : Hid p := h

/-- a slice of ints: its numbers -/
structure Zs (w : World) (a : Option Addr) (n : Nat) (xs : List Int) : Prop where
  len : xs.length = n
  cells : 0 < n → ∃ b o, a = some ⟨b, o, none⟩ ∧ ∀ i, i < n → w.cell? ⟨b, o + i, none⟩ = some (.int .i64 (xs.getD i 0))

theorem Zs.below {w w' : World} {a : Option Addr} {n : Nat} {zs : List Int} (h : Zs w a n zs) (hb : Below w.heap.size w w') : Zs w' a n zs :=
  ⟨h.len, fun h0 => by
    obtain ⟨b, o, e, hc⟩ := h.cells h0
    exact ⟨b, o, e, fun i hi => by rw [hb.cell (World.block_lt_of_cell? w _ (hc i hi)), hc i hi]⟩⟩

theorem Zs.drewN {w : World} {a : Option Addr} {n : Nat} {zs : List Int} (h : Zs w a n zs) (q : Nat) : Zs (w.drewN q) a n zs :=
  ⟨h.len, fun h0 => by obtain ⟨b, o, e, hc⟩ := h.cells h0; exact ⟨b, o, e, fun i hi => by simpa using hc i hi⟩⟩

theorem info3 : (Try.prog.info? 3).map (fun i => (i.zero, i.size, i.bytes)) = some (some (.int .i64 0), 1, 8) := by kernel_rfl

theorem own_zs {w : World} {B n : Nat} {v : Value} {xs : List Int} (h : w.ownsRow B 3 1 v n (xs.map (Value.int .i64))) :
    ∃ a cap, v = .slice a n cap ∧ Zs w a n xs := by
  have hl := h.1
  simp at hl
  rcases h.2 with ⟨rfl, rfl⟩ | ⟨g, cap, cur, rfl, hg, hh, hcap, hmax, hsz, htake⟩
  · exact ⟨none, 0, rfl, hl, fun h => absurd h (Nat.not_lt_zero _)⟩
  · refine ⟨some ⟨g, 0, none⟩, cap, rfl, hl, fun _ => ⟨g, 0, rfl, fun i hi => ?_⟩⟩
    have := h.cells (g := g) rfl i (.int .i64 (xs.getD i 0)) (by simp [List.getD, show i < xs.length by omega])
    rw [Addr.add_lit] at this
    exact this

/-- a string's byte, as the plain text has it -/
theorem bt_get (s : ByteArray) (i : Nat) (h : i < s.size) : bt s.data.toList i = s[i].toNat := by
  have h' : i < s.data.toList.length := by rw [Array.length_toList]; exact h
  unfold bt
  rw [List.getD, List.getElem?_eq_getElem h']
  rfl

theorem list_len (s : ByteArray) : s.data.toList.length = s.size := by rw [Array.length_toList]; rfl

theorem pre_list (r : List UInt8) : Lib.hasPrefix r [38, 123] = (decide (bt r 0 = 38) && decide (bt r 1 = 123)) := by
  have hc : ∀ (c : UInt8) (k : UInt8), (k == c) = decide (c.toNat = k.toNat) := by
    intro c k
    rw [Bool.eq_iff_iff]
    simp only [beq_iff_eq, decide_eq_true_eq]
    constructor
    · intro h; rw [h]
    · intro h; exact (UInt8.toNat_inj.1 h).symm
  cases r with
  | nil => rfl
  | cons c r =>
    cases r with
    | nil =>
      show (38 == c && List.isPrefixOf [123] []) = _
      have : List.isPrefixOf [(123 : UInt8)] [] = false := rfl
      rw [this, Bool.and_false]
      show false = (decide _ && decide (0 = 123))
      simp
    | cons d r =>
      show (38 == c && (123 == d && List.isPrefixOf [] r)) = (decide (c.toNat = 38) && decide (d.toNat = 123))
      have : List.isPrefixOf ([] : List UInt8) r = true := by cases r <;> rfl
      rw [this, Bool.and_true, hc, hc]
      rfl

theorem bt_drop (l : List UInt8) (i j : Nat) : bt (l.drop i) j = bt l (i + j) := by
  unfold bt
  simp [List.getD, List.getElem?_drop]

theorem hp_any (s : ByteArray) (i : Nat) (w : World) :
    Calls Try.prog 21 #[.string (s.extract i s.size), .string ⟨#[38, 123]⟩] w fun e w' => e = .returned (.bool (opn s.data.toList i)) ∧ w' = w := by
  have hc := Try.strings_HasPrefix (s.extract i s.size) ⟨#[38, 123]⟩ w
  have e : Lib.hasPrefix (s.extract i s.size).data.toList (⟨#[38, 123]⟩ : ByteArray).data.toList = opn s.data.toList i := by
    have hl := list_len s
    rw [Lib.extract_data, List.take_of_length_le (by rw [List.length_drop]; omega)]
    show Lib.hasPrefix (s.data.toList.drop i) [38, 123] = _
    rw [pre_list, bt_drop, bt_drop]
    rfl
  rw [e] at hc
  exact hc

/-- what became of 'found': nothing was appended yet, or it lies in a row of the call's own -/
def Fd (w : World) (a : Option Addr) (n : Nat) (xs : List Int) (F : List Nat) (wr : World) (v : Value) : Prop :=
  (F = [] ∧ v = .slice a n n ∧ wr = w) ∨ (F ≠ [] ∧ wr.ownsRow w.heap.size 3 1 v (n + F.length) ((xs ++ F.map (fun k : Nat => (k : Int))).map (Value.int .i64)) ∧ Below w.heap.size w wr)

theorem owns_mono {w : World} {B B' : Nat} {e : TypeId} {size : Nat} {v : Value} {n : Nat} {xs : List Value} (h : w.ownsRow B' e size v n xs) (hB : B ≤ B') : w.ownsRow B e size v n xs := by
  refine ⟨h.1, ?_⟩
  rcases h.2 with h2 | ⟨g, cap, cur, hv, hg, r⟩
  · exact .inl h2
  · exact .inr ⟨g, cap, cur, hv, Nat.le_trans hB hg, r⟩

theorem one_cell (x : Int) : ∀ u ∈ [Value.int .i64 x], u.oneCell' = true := by
  intro u hu
  rw [List.mem_singleton.1 hu]
  rfl

theorem olds_alloc {w : World} {a : Option Addr} {n : Nat} {xs : List Int} (hz : Zs w a n xs) (o : Obj) :
    ∀ b, a = some b → ∀ j u, (xs.map (Value.int .i64))[j]? = some u → (w.alloc o).cell? (b.add j) = some u := by
  intro ad had j v hv
  have hl := hz.len
  have hj : j < n := by
    have := (List.getElem?_eq_some_iff.1 hv).1
    simpa [hl] using this
  obtain ⟨b, o', e, hc⟩ := hz.cells (by omega)
  rw [had] at e
  obtain rfl := Option.some.inj e
  have hb : Below w.heap.size w (w.alloc o) := (Below.refl _ _).alloc (Nat.le_refl _) _
  rw [Addr.add_lit, hb.cell (World.block_lt_of_cell? w _ (hc j hj)), hc j hj, ← hv]
  simp [List.getD, show j < xs.length by omega]

theorem bst_succ (s : List UInt8) (k : Nat) : bst s (k + 1) = bstep s (s.length - 1 - k) (bst s k) := rfl

set_option maxHeartbeats 1000000 in
set_option maxRecDepth 100000 in
theorem back_any (s : ByteArray) (f : Nat) (a : Option Addr) (n : Nat) (xs : List Int) (w : World) (hs : s.size ≤ 200000) (hf : f ≤ 9223372036854775807) (hn : n ≤ 100000) (hz : Zs w a n xs) (ha : a = none → n = 0) :
    Calls Try.prog 19 #[.string s, .int .i64 f, .slice a n n] w fun e w' => ∃ v, e = .returned v ∧ Fd w a n xs (fil s.data.toList f (bst s.data.toList (s.size - f)).2) w' v := by
  obtain ⟨i3, hi, hi0, hi1, hi2⟩ := info_parts info3
  have HZ := hid hz
  have HA := hid ha
  clear hz ha
  go_enter Try.func19, Try.ntmps19
  go_wp2
  go_loopw [2, 7, 8] (fun v wt i wr => ∃ k W : Nat, k ≤ s.size - f ∧ W ≤ k ∧ wt = .int .i64 W ∧ i = .int .i64 ((s.size : Int) - 1 - (k : Int)) ∧ Hid (W = (bst s.data.toList k).1) ∧ Hid (Fd w a n xs (fil s.data.toList f (bst s.data.toList k).2) wr v)) (fun _ _ i _ => (intOf i + 1).toNat)
  case atStart =>
    refine ⟨0, 0, Nat.zero_le _, Nat.le_refl _, rfl, ?_, rfl, .inl ⟨rfl, rfl, rfl⟩⟩
    simp
  case round =>
    obtain ⟨k, W, hk, hWk, rfl, rfl, HW, HF⟩ := hrel
    by_cases hlt : k < s.size - f
    · obtain ⟨i, hi'⟩ : ∃ i, i + k + 1 = s.size := ⟨s.size - 1 - k, by omega⟩
      have hi1' : (s.size : Int) - 1 - (k : Int) = (i : Int) := by omega
      have his : i < s.size := by omega
      have hfi : (f : Int) ≤ (i : Int) := by omega
      rw [hi1']
      have HI := hid hi'
      clear hi' hi1'
      have HST : Hid (bst s.data.toList (k + 1) = bstep s.data.toList i (bst s.data.toList k)) := hid (by
        have := HI.out
        rw [bst_succ, list_len, show s.size - 1 - k = i from by omega])
      by_cases h1 : s[i].toNat = 125
      · have g1 : ((s[i].toNat : Int) == 125) = true := beq_iff_eq.2 (by omega)
        have HN : Hid (bst s.data.toList (k + 1) = (W + 1, (bst s.data.toList k).2)) := hid (by
          rw [HST.out]; unfold bstep; rw [if_pos (by rw [bt_get s i his]; exact h1), HW.out])
        clear h1
        go_wp2
        go_roundw
        case rel =>
          have hI := HI.out
          refine ⟨k + 1, W + 1, by omega, by omega, by go_num, ?_, hid (by rw [HN.out]), hid (by rw [HN.out]; exact HF.out)⟩
          go_num
        case measure => (simp [intOf]; try omega)
      · have g1 : ((s[i].toNat : Int) == 125) = false := beq_eq_false_iff_ne.2 (by omega)
        by_cases h2 : opn s.data.toList i = false
        · have H21 := hp_any s i wr
          rw [h2] at H21
          have H21 := hid H21
          have HN : Hid (bst s.data.toList (k + 1) = bst s.data.toList k) := hid (by
            rw [HST.out]; unfold bstep; rw [if_neg (by rw [bt_get s i his]; exact h1), if_pos h2])
          clear h1 h2
          go_wp2_with (go_at_call 21; refine H21.out.mono ?_; rintro e w' ⟨rfl, rfl⟩)
          go_roundw
          case rel =>
            have hI := HI.out
            refine ⟨k + 1, W, by omega, by omega, rfl, ?_, hid (by rw [HN.out]; exact HW.out), hid (by rw [HN.out]; exact HF.out)⟩
            go_num
          case measure => (simp [intOf]; try omega)
        · have H21 := hp_any s i wr
          rw [show opn s.data.toList i = true from by simpa using h2] at H21
          have H21 := hid H21
          by_cases h3 : 0 < W
          · have g3 : (0 : Int) < (W : Int) := by omega
            have HN : Hid (bst s.data.toList (k + 1) = (W - 1, (bst s.data.toList k).2)) := hid (by
              rw [HST.out]; unfold bstep; rw [if_neg (by rw [bt_get s i his]; exact h1), if_neg h2, if_pos (by rw [← HW.out]; exact h3), HW.out])
            clear h1 h2
            go_wp2_with (go_at_call 21; refine H21.out.mono ?_; rintro e w' ⟨rfl, rfl⟩)
            go_roundw
            case rel =>
              have hI := HI.out
              refine ⟨k + 1, W - 1, by omega, by omega, by go_num, ?_, hid (by rw [HN.out]), hid (by rw [HN.out]; exact HF.out)⟩
              go_num
            case measure => (simp [intOf]; try omega)
          · obtain rfl : W = 0 := by omega
            have HN : Hid (bst s.data.toList (k + 1) = (0, (bst s.data.toList k).2 ++ [i])) := hid (by
              rw [HST.out]; unfold bstep; rw [if_neg (by rw [bt_get s i his]; exact h1), if_neg h2, if_neg (by rw [← HW.out]; omega), ← HW.out])
            clear h1 h2 h3
            by_cases hfi' : f < i
            · have g4 : (f : Int) < (i : Int) := by omega
              obtain ⟨j, rfl⟩ : ∃ j, i = j + 1 := ⟨i - 1, by omega⟩
              have hjs : j < s.size := by omega
              by_cases h5 : s[j].toNat = 92
              · have g5 : ((s[j].toNat : Int) == 92) = true := beq_iff_eq.2 (by omega)
                have HFI : Hid (fil s.data.toList f (bst s.data.toList (k + 1)).2 = fil s.data.toList f (bst s.data.toList k).2 ++ [j]) := hid (by
                  rw [HN.out]
                  show fil s.data.toList f ((bst s.data.toList k).2 ++ [j + 1]) = _
                  rw [fil_snoc, if_pos]
                  · rfl
                  · unfold esc
                    rw [Nat.add_sub_cancel, bt_get s j hjs, h5, decide_eq_true hfi']
                    rfl)
                clear h5
                have hkb : (fil s.data.toList f (bst s.data.toList k).2).length ≤ k := Nat.le_trans (fil_len _ _ _) (bst_len _ _)
                rcases HF.out with ⟨hF0, rfl, rfl⟩ | ⟨hne, hown, hbel⟩
                · have HF0 := hid hF0
                  clear hF0 HF
                  have HOL := hid (olds_alloc HZ.out (.cells #[.int .i64 (j : Int)] 3))
                  go_wp2_with (first | (go_at_call 21; refine H21.out.mono ?_; rintro e w' ⟨rfl, hw'⟩; have hw'' := hw'.symm; subst hw'') | (at_builtin; refine wpList_append_grows _ rfl _ _ 22 rfl 3 i3 (.int .i64 0) 1 8 Try.underlying22 hi hi0 hi1 hi2 rfl (by omega) a n n (xs.map (Value.int .i64)) rfl (fun e => ⟨HA.out e, HA.out e⟩) (by rw [List.length_map, HZ.out.len]; omega) HOL.out _ 1 1 [.int .i64 (j : Int)] rfl rfl (cell_one_new _ _ _) (one_cell _) (by omega) (by unfold maxLen; omega) (by omega) ?_))
                  intro v' w2 hown hgr
                  have HO := hid hown
                  have HG := hid hgr
                  clear hown hgr
                  go_wp2
                  go_roundw
                  case rel =>
                    have hI := HI.out
                    refine ⟨k + 1, 0, by omega, by omega, rfl, ?_, hid (by rw [HN.out]), hid (.inr ⟨by rw [HFI.out]; simp, ?_, ?_⟩)⟩
                    · go_num
                    · rw [HFI.out, HF0.out]
                      have := owns_mono HO.out (Nat.le_succ wr.heap.size)
                      simpa using this
                    · exact Below.grown ((Below.refl _ _).alloc (Nat.le_refl _) _) HG.out (by simp) (by intro k hk; cases hk)
                  case measure => (simp [intOf]; try omega)
                · have HO := hid hown
                  have HBL := hid hbel
                  have HNE := hid hne
                  clear hown hbel hne HF
                  have HOA := hid (HO.out.alloc (.cells #[.int .i64 (j : Int)] 3))
                  go_wp2_with (first | (go_at_call 21; refine H21.out.mono ?_; rintro e w' ⟨rfl, hw'⟩; have hw'' := hw'.symm; subst hw'') | (at_builtin; refine wpList_append_own _ rfl _ _ 22 rfl w.heap.size 3 i3 (.int .i64 0) 1 8 Try.underlying22 hi hi0 hi1 hi2 rfl (by omega) _ _ _ rfl HOA.out _ 1 1 [.int .i64 (j : Int)] rfl rfl (cell_one_new _ _ _) (one_cell _) (by unfold maxLen; omega) (by omega) (by have := HBL.out.size; simp; omega) ?_))
                  intro v' w2 hown hgr _
                  have HO2 := hid hown
                  have HG := hid hgr
                  clear hown hgr
                  go_wp2
                  go_roundw
                  case rel =>
                    have hI := HI.out
                    refine ⟨k + 1, 0, by omega, by omega, rfl, ?_, hid (by rw [HN.out]), hid (.inr ⟨by rw [HFI.out]; simp, ?_, ?_⟩)⟩
                    · go_num
                    · rw [HFI.out]
                      have := HO2.out
                      simpa [Nat.add_assoc] using this
                    · exact Below.grown (HBL.out.alloc HBL.out.size _) HG.out (by have := HBL.out.size; simp; omega) (fun k hk => (HO.out.lt k hk).1)
                  case measure => (simp [intOf]; try omega)
              · have g5 : ((s[j].toNat : Int) == 92) = false := beq_eq_false_iff_ne.2 (by omega)
                have HFI : Hid (fil s.data.toList f (bst s.data.toList (k + 1)).2 = fil s.data.toList f (bst s.data.toList k).2) := hid (by
                  rw [HN.out]
                  show fil s.data.toList f ((bst s.data.toList k).2 ++ [j + 1]) = _
                  rw [fil_snoc, if_neg]
                  unfold esc
                  rw [Nat.add_sub_cancel, bt_get s j hjs, decide_eq_false h5, Bool.and_false]
                  simp)
                clear h5
                go_wp2_with (go_at_call 21; refine H21.out.mono ?_; rintro e w' ⟨rfl, rfl⟩)
                go_roundw
                case rel =>
                  have hI := HI.out
                  refine ⟨k + 1, 0, by omega, by omega, rfl, ?_, hid (by rw [HN.out]), hid (by rw [HFI.out]; exact HF.out)⟩
                  go_num
                case measure => (simp [intOf]; try omega)
            · have g4 : ¬ (f : Int) < (i : Int) := by omega
              have HFI : Hid (fil s.data.toList f (bst s.data.toList (k + 1)).2 = fil s.data.toList f (bst s.data.toList k).2) := hid (by
                rw [HN.out]
                show fil s.data.toList f ((bst s.data.toList k).2 ++ [i]) = _
                rw [fil_snoc, if_neg]
                unfold esc
                rw [decide_eq_false hfi', Bool.false_and]
                simp)
              go_wp2_with (go_at_call 21; refine H21.out.mono ?_; rintro e w' ⟨rfl, rfl⟩)
              go_roundw
              case rel =>
                have hI := HI.out
                refine ⟨k + 1, 0, by omega, by omega, rfl, ?_, hid (by rw [HN.out]), hid (by rw [HFI.out]; exact HF.out)⟩
                go_num
              case measure => (simp [intOf]; try omega)
    · have hke : k = s.size - f := by omega
      have HKE := hid hke
      have g6 : ¬ (f : Int) ≤ (s.size : Int) - 1 - (k : Int) := by omega
      clear hke
      go_wp2
      go_ret
      exact ⟨_, rfl, by rw [← HKE.out]; exact HF.out⟩

/-- what unclosedEscapes answers, as a slice's numbers -/
theorem fd_zs {w : World} {a : Option Addr} {n : Nat} {xs : List Int} {F : List Nat} {wr : World} {v : Value} (hz : Zs w a n xs) (h : Fd w a n xs F wr v) :
    ∃ a' c', v = .slice a' (n + F.length) c' ∧ Zs wr a' (n + F.length) (xs ++ F.map (fun k : Nat => (k : Int))) ∧ Below w.heap.size w wr := by
  rcases h with ⟨rfl, rfl, rfl⟩ | ⟨_, ho, hb⟩
  · exact ⟨a, n, rfl, by simpa using hz, Below.refl _ _⟩
  · obtain ⟨a', c', e, hz'⟩ := own_zs ho
    exact ⟨a', c', e, hz', hb⟩

set_option maxHeartbeats 400000 in
theorem zz_any (s : ByteArray) (f : Nat) (a : Option Addr) (n : Nat) (xs : List Int) (w : World) (hs : s.size ≤ 200000) (hf : f ≤ 9223372036854775807) (hn : n ≤ 100000) (hz : Zs w a n xs) (ha : a = none → n = 0) :
    Calls Try.prog 10 #[.string s, .int .i64 f, .slice a n n] w fun e w' => ∃ a' c', e = .returned (.slice a' (n + (fil s.data.toList f (bst s.data.toList (s.size - f)).2).length) c') ∧ Zs w' a' (n + (fil s.data.toList f (bst s.data.toList (s.size - f)).2).length) (xs ++ (fil s.data.toList f (bst s.data.toList (s.size - f)).2).map (fun k : Nat => (k : Int))) ∧ Below w.heap.size w w' := by
  have H := hid (back_any s f a n xs w hs hf hn hz ha)
  have HZ := hid hz
  clear hz ha hs hf hn
  generalize fil s.data.toList f (bst s.data.toList (s.size - f)).2 = F at *
  go_enter Try.func10, Try.ntmps10
  go_wp2_with fail
  refine H.out.mono ?_
  rintro e w' ⟨v, rfl, hfd⟩
  obtain ⟨a', c', rfl, hz', hb'⟩ := fd_zs HZ.out hfd
  have HH := hid (And.intro hz' hb')
  clear hz' hb' hfd
  go_wp2
  go_ret
  exact ⟨a', c', rfl, HH.out⟩
end Go.Proofs.Qxb6619591a
