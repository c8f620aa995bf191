import Derived.Test.Qxb6619289aBase
import Derived.Lib.SlBytesConst
import Derived.Lib.Bytes2
namespace Go.Proofs.Qxb6619289a
open Go.RowKit

theorem Bs.below {w w' : World} {a : Option Addr} {n : Nat} {zs : List Int} (h : Bs w a n zs) (hb : Below w.heap.size w w') : Bs w' a n zs :=
  ⟨h.len, h.rng, fun h0 => by
    obtain ⟨b, o, e, hc⟩ := h.cells h0
    exact ⟨b, o, e, fun i hi => by rw [hb.cell (World.block_lt_of_cell? w _ (hc i hi)), hc i hi]⟩⟩

/-- the mark, as bytes and as numbers -/
def mark : ByteArray := ⟨#[123, 34, 98, 97, 116, 99, 104, 34, 58, 32, 34, 101, 110, 100, 34, 44]⟩
def markZ : List Int := [123, 34, 98, 97, 116, 99, 104, 34, 58, 32, 34, 101, 110, 100, 34, 44]

theorem info5 : (Try.prog.info? 5).map (fun i => (i.zero, i.size, i.bytes)) = some (some (.int .u8 0), 1, 1) := by kernel_rfl

set_option maxHeartbeats 400000 in
theorem equal_any (v1 v2 : Value) (xs ys : List Int) (w : World)
    (h1 : (convert 22 9 v1).run Try.prog w = .ok (.string (strOfNums xs)) w) (h2 : (convert 22 9 v2).run Try.prog w = .ok (.string (strOfNums ys)) w) :
    Calls Try.prog 14 #[v1, v2] w fun e w' => e = .returned (.bool (Lib.bytesOf xs == Lib.bytesOf ys)) ∧ w' = w := by
  rw [← Lib.strOfNums_toList, ← Lib.strOfNums_toList]
  go_enter Try.func14, Try.ntmps14
  go_wp2
  go_ret
  exact ⟨rfl, rfl⟩

set_option maxHeartbeats 400000 in
theorem hasPrefix_short (a1 a2 : Option Addr) (n c m d : Nat) (w : World) (h : n < m) :
    Calls Try.prog 13 #[.slice a1 n c, .slice a2 m d] w fun e w' => e = .returned (.bool false) ∧ w' = w := by
  have e1 : ¬ ((m : Int) ≤ (n : Int)) := by omega
  go_enter Try.func13, Try.ntmps13
  go_wp2
  go_ret
  exact ⟨rfl, rfl⟩

set_option maxHeartbeats 400000 in
theorem hasPrefix_long (b1 o1 n c b2 o2 m d : Nat) (xs ys : List Int) (w : World) (hx : xs.length = n) (hy : ys.length = m) (hnc : n ≤ c) (hmn : m ≤ n)
    (hc1 : ∀ i, i < n → w.cell? ⟨b1, o1 + i, none⟩ = some (.int .u8 (xs.getD i 0))) (hc2 : ∀ i, i < m → w.cell? ⟨b2, o2 + i, none⟩ = some (.int .u8 (ys.getD i 0))) :
    Calls Try.prog 13 #[.slice (some ⟨b1, o1, none⟩) n c, .slice (some ⟨b2, o2, none⟩) m d] w fun e w' => e = .returned (.bool (Lib.bytesOf (xs.take m) == Lib.bytesOf ys)) ∧ w' = w := by
  have g2 := run_convert_bytes_arg (P := Try.prog) w 22 5 Try.underlying22 Try.underlying5 b2 o2 m d ys hy hc2 9 Try.underlying9
  have g1 : (convert 22 9 (.slice (some ⟨b1, o1, none⟩) m c)).run Try.prog w = .ok (.string (strOfNums (xs.take m))) w :=
    run_convert_bytes_arg (P := Try.prog) w 22 5 Try.underlying22 Try.underlying5 b1 o1 m c (xs.take m) (by simp; omega) (fun i hi => by rw [Lib.getD_take _ _ _ hi]; exact hc1 i (by omega)) 9 Try.underlying9
  clear hc1 hc2
  go_enter Try.func13, Try.ntmps13
  go_wp2_with (go_at_call 14; refine (equal_any _ _ (xs.take m) ys _ g1 g2).mono ?_; rintro e w' ⟨rfl, rfl⟩)
  go_ret
  exact ⟨rfl, rfl⟩


theorem hid {p : Prop} (h : p) : Hid p := h

theorem mark_cells (w : World) (i : Nat) (hi : i < 16) :
    (w.alloc (.cells (markZ.map (Value.int .u8)).toArray 5 (16, 17))).cell? ⟨w.heap.size, 0 + i, none⟩ = some (.int .u8 (markZ.getD i 0)) := by
  rw [Nat.zero_add, cell_of_row _ _ _ _ _ _ (heap_alloc_new w _)]
  have hl : i < markZ.length := hi
  simp [List.getD, List.getElem?_eq_getElem hl]

set_option maxHeartbeats 400000 in
theorem cut_short (a1 a2 : Option Addr) (n c m d : Nat) (w : World) (h : n < m) :
    Calls Try.prog 12 #[.slice a1 n c, .slice a2 m d] w fun e w' => e = .returned (.tuple #[.slice a1 n c, .bool false]) ∧ w' = w := by
  go_enter Try.func12, Try.ntmps12
  go_wp2_with (go_at_call 13; refine (hasPrefix_short _ _ _ _ _ _ _ h).mono ?_; rintro e w' ⟨rfl, rfl⟩)
  go_ret2
  exact ⟨rfl, rfl⟩

set_option maxHeartbeats 400000 in
theorem cut_no (b1 o1 n c b2 o2 m d : Nat) (xs ys : List Int) (w : World) (hx : xs.length = n) (hy : ys.length = m) (hnc : n ≤ c) (hmn : m ≤ n)
    (hc1 : ∀ i, i < n → w.cell? ⟨b1, o1 + i, none⟩ = some (.int .u8 (xs.getD i 0))) (hc2 : ∀ i, i < m → w.cell? ⟨b2, o2 + i, none⟩ = some (.int .u8 (ys.getD i 0)))
    (h : (Lib.bytesOf (xs.take m) == Lib.bytesOf ys) = false) :
    Calls Try.prog 12 #[.slice (some ⟨b1, o1, none⟩) n c, .slice (some ⟨b2, o2, none⟩) m d] w fun e w' => e = .returned (.tuple #[.slice (some ⟨b1, o1, none⟩) n c, .bool false]) ∧ w' = w := by
  have hcon := hasPrefix_long b1 o1 n c b2 o2 m d xs ys w hx hy hnc hmn hc1 hc2
  rw [h] at hcon
  have H := hid hcon
  clear hcon hc1 hc2 h
  go_enter Try.func12, Try.ntmps12
  go_wp2_with (go_at_call 13; refine H.out.mono ?_; rintro e w' ⟨rfl, rfl⟩)
  go_ret2
  exact ⟨rfl, rfl⟩

set_option maxHeartbeats 400000 in
theorem cut_yes (b1 o1 n c b2 o2 m d : Nat) (xs ys : List Int) (w : World) (hx : xs.length = n) (hy : ys.length = m) (hnc : n ≤ c) (hmn : m ≤ n)
    (hc1 : ∀ i, i < n → w.cell? ⟨b1, o1 + i, none⟩ = some (.int .u8 (xs.getD i 0))) (hc2 : ∀ i, i < m → w.cell? ⟨b2, o2 + i, none⟩ = some (.int .u8 (ys.getD i 0)))
    (h : (Lib.bytesOf (xs.take m) == Lib.bytesOf ys) = true) :
    Calls Try.prog 12 #[.slice (some ⟨b1, o1, none⟩) n c, .slice (some ⟨b2, o2, none⟩) m d] w fun e w' => (∃ o3, (n - m = 0 ∨ o3 = o1 + m) ∧ e = .returned (.tuple #[.slice (some ⟨b1, o3, none⟩) (n - m) (c - m), .bool true])) ∧ w' = w := by
  have hcon := hasPrefix_long b1 o1 n c b2 o2 m d xs ys w hx hy hnc hmn hc1 hc2
  rw [h] at hcon
  have H := hid hcon
  clear hcon hc1 hc2 h
  by_cases hcm : c = m
  · obtain rfl : n = m := by omega
    subst hcm
    go_enter Try.func12, Try.ntmps12
    go_wp2_with (go_at_call 13; refine H.out.mono ?_; rintro e w' ⟨rfl, rfl⟩)
    go_ret2
    exact ⟨⟨o1, Or.inl (Nat.sub_self _), by simp⟩, rfl⟩
  · go_enter Try.func12, Try.ntmps12
    go_wp2_with (go_at_call 13; refine H.out.mono ?_; rintro e w' ⟨rfl, rfl⟩)
    go_ret2
    exact ⟨⟨_, Or.inr rfl, rfl⟩, rfl⟩

set_option maxHeartbeats 400000 in
theorem closing_short (a : Option Addr) (n c : Nat) (w : World) (h : n < 16) :
    Calls Try.prog 11 #[.slice a n c] w fun e w' => e = .returned (.tuple #[.slice none 0 0, .bool false]) ∧ Below w.heap.size w w' := by
  have kc := fun (w : World) (C : Array Value) (n c : Nat) => Lib.run_convert_bytes_const (P := Try.prog) w 22 5 C n c Try.underlying22 Try.underlying5
  go_enter Try.func11, Try.ntmps11
  go_wp2_with (go_at_call 12; refine (cut_short _ _ _ _ _ _ _ h).mono ?_; rintro e w' ⟨rfl, rfl⟩)
  go_ret2
  exact ⟨rfl, (Below.refl _ _).alloc (Nat.le_refl _) _⟩

set_option maxHeartbeats 400000 in
theorem closing_differs (b o n c : Nat) (zs : List Int) (w : World) (hz : zs.length = n) (hnc : n ≤ c) (hn : 16 ≤ n)
    (hc : ∀ i, i < n → w.cell? ⟨b, o + i, none⟩ = some (.int .u8 (zs.getD i 0))) (h : (Lib.bytesOf (zs.take 16) == Lib.bytesOf markZ) = false) :
    Calls Try.prog 11 #[.slice (some ⟨b, o, none⟩) n c] w fun e w' => e = .returned (.tuple #[.slice none 0 0, .bool false]) ∧ Below w.heap.size w w' := by
  have kc := fun (w : World) (C : Array Value) (n c : Nat) => Lib.run_convert_bytes_const (P := Try.prog) w 22 5 C n c Try.underlying22 Try.underlying5
  have hcon := hid (cut_no b o n c w.heap.size 0 16 16 zs markZ (w.alloc (.cells (markZ.map (Value.int .u8)).toArray 5 (16, 17))) hz rfl hnc hn (fun i hi => Lib.cell?_alloc_marked _ (hc i hi)) (mark_cells w) h)
  clear hc h
  go_enter Try.func11, Try.ntmps11
  go_wp2_with fail
  refine hcon.out.mono ?_
  rintro e w' ⟨rfl, rfl⟩
  go_wp2
  go_ret2
  exact ⟨rfl, (Below.refl _ _).alloc (Nat.le_refl _) _⟩

theorem news_of (w : World) (b o o3 n : Nat) (zs : List Int) (hz : zs.length = n) (ho : n - 16 = 0 ∨ o3 = o + 16)
    (hc : ∀ i, i < n → w.cell? ⟨b, o + i, none⟩ = some (.int .u8 (zs.getD i 0))) :
    ∀ j u, ((zs.drop 16).map (Value.int .u8))[j]? = some u → w.cell? ((⟨b, o3, none⟩ : Addr).add j) = some u := by
  intro j u hu
  have hj : j < n - 16 := by
    have := (List.getElem?_eq_some_iff.1 hu).1
    simpa [hz] using this
  obtain rfl : o3 = o + 16 := by omega
  rw [Addr.add_lit, Nat.add_assoc, hc (16 + j) (by omega)]
  have e : ((zs.drop 16).map (Value.int .u8))[j]? = some (.int .u8 (zs.getD (16 + j) 0)) := by
    simp [List.getD, show 16 + j < zs.length by omega]
  rw [e] at hu
  exact hu

set_option maxHeartbeats 400000 in
theorem closing_same (b o n c : Nat) (zs : List Int) (w : World) (hz : zs.length = n) (hnc : n ≤ c) (hn : 16 ≤ n) (hbig : n ≤ 2000000)
    (hc : ∀ i, i < n → w.cell? ⟨b, o + i, none⟩ = some (.int .u8 (zs.getD i 0))) (h : (Lib.bytesOf (zs.take 16) == Lib.bytesOf markZ) = true) :
    Calls Try.prog 11 #[.slice (some ⟨b, o, none⟩) n c] w fun e w' => (∃ v', e = .returned (.tuple #[v', .bool true]) ∧ v' ≠ .slice none 0 0 ∧ w'.ownsRow w.heap.size 5 1 v' (1 + (n - 16)) ([.int .u8 123] ++ (zs.drop 16).map (Value.int .u8))) ∧ Below w.heap.size w w' := by
  have kc := fun (w : World) (C : Array Value) (n c : Nat) => Lib.run_convert_bytes_const (P := Try.prog) w 22 5 C n c Try.underlying22 Try.underlying5
  obtain ⟨i5, hi, hi0, hi1, hi2⟩ := info_parts info5
  have hcon := hid (cut_yes b o n c w.heap.size 0 16 16 zs markZ (w.alloc (.cells (markZ.map (Value.int .u8)).toArray 5 (16, 17))) hz rfl hnc hn (fun i hi => Lib.cell?_alloc_marked _ (hc i hi)) (mark_cells w) h)
  have HC := hid hc
  clear hc h
  go_enter Try.func11, Try.ntmps11
  go_wp2_with fail
  refine hcon.out.mono ?_
  rintro e w' ⟨⟨o3, ho3, rfl⟩, rfl⟩
  have HO := hid ho3
  clear ho3
  have hown : ((w.alloc (.cells (markZ.map (Value.int .u8)).toArray 5 (16, 17))).alloc (.cells #[.int .u8 123] 5)).ownsRow w.heap.size 5 1 (.slice (some ⟨w.heap.size + 1, 0, none⟩) 1 1) 1 [.int .u8 123] := by
    refine ⟨rfl, .inr ⟨w.heap.size + 1, 1, #[.int .u8 123], rfl, by omega, ?_, by omega, by decide, rfl, rfl⟩⟩
    have := heap_alloc_new (w.alloc (.cells (markZ.map (Value.int .u8)).toArray 5 (16, 17))) (.cells #[.int .u8 123] 5)
    simpa using this
  have hnews := news_of ((w.alloc (.cells (markZ.map (Value.int .u8)).toArray 5 (16, 17))).alloc (.cells #[.int .u8 123] 5)) b o o3 n zs hz HO.out (fun i hi => Lib.cell?_alloc_marked _ (Lib.cell?_alloc_marked _ (HC.out i hi)))
  have HW := hid hown
  have HX := hid hnews
  clear hown hnews
  go_wp2_with (at_builtin; refine wpList_append_own _ rfl _ _ 22 rfl w.heap.size 5 i5 (.int .u8 0) 1 1 Try.underlying22 hi hi0 hi1 hi2 rfl (by omega) _ 1 [.int .u8 123] rfl HW.out _ _ _ ((zs.drop 16).map (Value.int .u8)) rfl (by simp [hz]) HX.out (ints_oneCell _ _) (by unfold maxLen; omega) (by omega) (by simp; omega) ?_)
  intro v' w' hown2 hgrow hnn
  have HO2 := hid hown2
  have HG := hid hgrow
  have HN := hid hnn
  clear hown2 hgrow hnn kc
  go_wp2
  go_ret2
  refine ⟨⟨v', rfl, HN.out, by simpa using HO2.out⟩, ?_⟩
  exact Below.grown (((Below.refl _ _).alloc (Nat.le_refl _) _).alloc (by simp) _) HG.out (by simp; omega) (by intro k hk; simp [Value.ownBlock] at hk; omega)

/-- what 'closing' asks: the mark at the head -/
theorem bytes_same (zs : List Int) (hr : ∀ z ∈ zs, 0 ≤ z ∧ z ≤ 255) : (Lib.bytesOf (zs.take 16) == Lib.bytesOf markZ) = true ↔ zs.take 16 = markZ := by
  rw [beq_iff_eq]
  constructor
  · intro h
    have e : ∀ l : List Int, (∀ z ∈ l, 0 ≤ z ∧ z ≤ 255) → (Lib.bytesOf l).map (fun b => (b.toNat : Int)) = l := by
      intro l hl
      rw [Lib.bytesOf, List.map_map]
      conv => rhs; rw [← List.map_id l]
      apply List.map_congr_left
      intro z hz
      have := hl z hz
      simp [UInt8.toNat_ofNat']
      omega
    rw [← e (zs.take 16) (fun z hz => hr z (List.mem_of_mem_take hz)), h, e markZ (by decide)]
  · intro h
    rw [h]

theorem own_bs {w : World} {B n : Nat} {v : Value} {xs : List Int} (h : w.ownsRow B 5 1 v n (xs.map (Value.int .u8))) (hv : v ≠ .slice none 0 0) (hr : ∀ z ∈ xs, 0 ≤ z ∧ z ≤ 255) :
    ∃ g cap, v = .slice (some ⟨g, 0, none⟩) n cap ∧ n ≤ cap ∧ Bs w (some ⟨g, 0, none⟩) n xs := by
  have hl := h.1
  simp at hl
  rcases h.2 with ⟨h0, _⟩ | ⟨g, cap, cur, rfl, hg, hh, hcap, hmax, hsz, htake⟩
  · exact absurd h0 hv
  · refine ⟨g, cap, rfl, hcap, hl, hr, fun _ => ⟨g, 0, rfl, fun i hi => ?_⟩⟩
    have := h.cells (g := g) rfl i (.int .u8 (xs.getD i 0)) (by simp [List.getD, show i < xs.length by omega])
    rw [Addr.add_lit] at this
    exact this

theorem closing_yes (a : Option Addr) (n c : Nat) (zs : List Int) (w : World) (hb : Bs w a n zs) (hnc : n ≤ c) (hbig : n ≤ 2000000) (h : zs.take 16 = markZ) :
    Calls Try.prog 11 #[.slice a n c] w fun e w' => ∃ g cap, e = .returned (.tuple #[.slice (some ⟨g, 0, none⟩) (n - 15) cap, .bool true]) ∧ n - 15 ≤ cap ∧ Bs w' (some ⟨g, 0, none⟩) (n - 15) (123 :: zs.drop 16) ∧ Below w.heap.size w w' := by
  have hl := hb.len
  have hn : 16 ≤ n := by
    have := congrArg List.length h
    simp [markZ] at this
    omega
  obtain ⟨b, o, rfl, hc⟩ := hb.cells (by omega)
  refine (closing_same b o n c zs w hl hnc hn hbig hc ((bytes_same zs hb.rng).2 h)).mono ?_
  rintro e w' ⟨⟨v', rfl, hv, hown⟩, hbel⟩
  have hown' : w'.ownsRow w.heap.size 5 1 v' (1 + (n - 16)) ((123 :: zs.drop 16).map (Value.int .u8)) := by simpa using hown
  obtain ⟨g, cap, rfl, hcap, hbs⟩ := own_bs hown' hv (fun z hz => by
    rcases List.mem_cons.1 hz with rfl | hz
    · omega
    · exact hb.rng z (List.mem_of_mem_drop hz))
  have e : 1 + (n - 16) = n - 15 := by omega
  rw [e] at hcap hbs ⊢
  exact ⟨g, cap, rfl, hcap, hbs, hbel⟩

theorem closing_no (a : Option Addr) (n c : Nat) (zs : List Int) (w : World) (hb : Bs w a n zs) (hnc : n ≤ c) (h : ¬ zs.take 16 = markZ) :
    Calls Try.prog 11 #[.slice a n c] w fun e w' => e = .returned (.tuple #[.slice none 0 0, .bool false]) ∧ Below w.heap.size w w' := by
  by_cases hn : n < 16
  · exact closing_short a n c w hn
  · obtain ⟨b, o, rfl, hc⟩ := hb.cells (by omega)
    exact closing_differs b o n c zs w hb.len hnc (by omega) hc (by
      have := (not_congr (bytes_same zs hb.rng)).2 h
      simpa using this)

set_option maxHeartbeats 400000 in
theorem zz_yes (a : Option Addr) (n c : Nat) (zs : List Int) (w : World) (hb : Bs w a n zs) (hnc : n ≤ c) (hbig : n ≤ 2000000) (h : zs.take 16 = markZ) :
    Calls Try.prog 7 #[.slice a n c] w fun e w' => ∃ g cap, e = .returned (.tuple #[.slice (some ⟨g, 0, none⟩) (n - 15) cap, .bool true]) ∧ n - 15 ≤ cap ∧ Bs w' (some ⟨g, 0, none⟩) (n - 15) (123 :: zs.drop 16) ∧ Below w.heap.size w w' := by
  have H := hid (closing_yes a n c zs w hb hnc hbig h)
  clear hb h
  go_enter Try.func7, Try.ntmps7
  go_wp2_with fail
  refine H.out.mono ?_
  rintro e w' ⟨g, cap, rfl, h1, h2, h3⟩
  have HH := hid (And.intro h1 (And.intro h2 h3))
  clear h1 h2 h3
  go_wp2
  go_ret2
  exact ⟨g, cap, rfl, HH.out⟩

set_option maxHeartbeats 400000 in
theorem zz_no (a : Option Addr) (n c : Nat) (zs : List Int) (w : World) (hb : Bs w a n zs) (hnc : n ≤ c) (h : ¬ zs.take 16 = markZ) :
    Calls Try.prog 7 #[.slice a n c] w fun e w' => e = .returned (.tuple #[.slice none 0 0, .bool false]) ∧ Below w.heap.size w w' := by
  have H := hid (closing_no a n c zs w hb hnc h)
  clear hb h
  go_enter Try.func7, Try.ntmps7
  go_wp2_with fail
  refine H.out.mono ?_
  rintro e w' ⟨rfl, h3⟩
  have HH := hid h3
  clear h3
  go_wp2
  go_ret2
  exact ⟨rfl, HH.out⟩
end Go.Proofs.Qxb6619289a
