import Derived.Test.Qxb6619289aClosing
namespace Go.Proofs.Qxb6619289a
open Go.RowKit

def rep : ByteArray := ⟨#[34, 98, 97, 116, 99, 104, 34, 58, 32, 34, 101, 110, 100, 34, 44]⟩
def repZ : List Int := [34, 98, 97, 116, 99, 104, 34, 58, 32, 34, 101, 110, 100, 34, 44]

def numsOf (p : ByteArray) : List Int := p.data.toList.map fun b => (b.toNat : Int)

theorem ma_iff (zs : List Int) (k : Nat) (p : ByteArray) (hp : 0 < p.size) : MA zs k p ↔ (zs.drop k).take p.size = numsOf p := by
  have hpl : (numsOf p).length = p.size := by unfold numsOf; rw [List.length_map, Array.length_toList]; rfl
  have hpj : ∀ j (hj : j < p.size), (numsOf p)[j]? = some (p[j].toNat : Int) := by
    intro j hj
    have hj' : j < p.data.size := hj
    unfold numsOf
    rw [List.getElem?_map, Array.getElem?_toList, Array.getElem?_eq_getElem hj']
    rfl
  constructor
  · rintro ⟨h1, h2⟩
    apply List.ext_getElem?
    intro j
    by_cases hj : j < p.size
    · rw [hpj j hj, List.getElem?_take, if_pos hj, List.getElem?_drop]
      have := h2 j hj
      rw [List.getD, List.getElem?_eq_getElem (by omega)] at this
      rw [List.getElem?_eq_getElem (by omega)]
      simpa using this
    · rw [List.getElem?_eq_none (by simp; omega), List.getElem?_eq_none (by omega)]
  · intro h
    have hl := congrArg List.length h
    rw [hpl] at hl
    simp at hl
    refine ⟨by omega, fun j hj => ?_⟩
    have := congrArg (fun l => l[j]?) h
    simp only [hpj j hj, List.getElem?_take, if_pos hj, List.getElem?_drop] at this
    simp [List.getD, this]

theorem nums_rep : numsOf rep = repZ := by decide
theorem nums_mark : numsOf mark = markZ := by decide

theorem ma_rep (zs : List Int) (k : Nat) : MA zs k rep ↔ (zs.drop k).take 15 = repZ := by
  rw [ma_iff zs k rep (by decide), nums_rep]
  exact Iff.rfl

theorem ma_mark (zs : List Int) : MA zs 0 mark ↔ zs.take 16 = markZ := by
  rw [ma_iff zs 0 mark (by decide), nums_mark]
  exact Iff.rfl

theorem brace_mark (zs : List Int) (k : Nat) : (123 :: zs.drop k).take 16 = markZ ↔ MA zs k rep := by
  rw [ma_rep]
  show 123 :: (zs.drop k).take 15 = 123 :: repZ ↔ _
  simp

theorem head_brace (zs : List Int) (h0 : 0 < zs.length) (h : zs.getD 0 0 = 123) : zs = 123 :: zs.drop 1 := by
  cases zs with
  | nil => simp at h0
  | cons z zs => simp at h; simp [h]

theorem not_mark (zs : List Int) (h : ¬ zs.getD 0 0 = 123) : ¬ zs.take 16 = markZ := by
  intro e
  cases zs with
  | nil => simp [markZ] at e
  | cons z zs => simp [markZ] at e h; exact h e.1

theorem nil_neq (w : World) (a : Option Addr) (n c n' c' : Nat) : (binOp .neq 22 (.slice a n c) (.slice none n' c')).run Try.prog w = .ok (.bool a.isSome) w := by
  have := run_neq_slice_nil_any (P := Try.prog) w 22 5 a n c n' c' Try.underlying22
  simpa using this
end Go.Proofs.Qxb6619289a
