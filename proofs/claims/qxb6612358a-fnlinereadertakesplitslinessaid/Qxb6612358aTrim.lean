/- The plain law of the line reader: dropping one final carriage return, byte by byte. -/
import Derived.Test.Qxb6612358aLr
namespace Go.Proofs.Qxb6612358a
open Go.RowKit

/-- is the last byte gone through a carriage return that waits? -/
def pend (bs : List Int) (st p : Nat) : Bool := decide (st < p ∧ bs.getD (p - 1) 0 = 13)

theorem pend_yes {bs : List Int} {st p : Nat} (hp : p ≤ bs.length) (h : pend bs st p = true) : lineL bs st p ++ [13] = (bs.take p).drop st := by
  unfold pend at h
  obtain ⟨h1, h2⟩ := of_decide_eq_true h
  unfold lineL cutE
  rw [if_pos ⟨h1, h2⟩]
  obtain ⟨q, rfl⟩ : ∃ q, p = q + 1 := ⟨p - 1, by omega⟩
  simp only [Nat.add_sub_cancel] at h2 ⊢
  have hq : q < bs.length := by omega
  have e : bs[q] = 13 := by simpa [List.getD, hq] using h2
  rw [List.take_succ_eq_append_getElem hq, List.drop_append_of_le_length (by simp; omega), e]
theorem pend_no {bs : List Int} {st p : Nat} (h : pend bs st p = false) : lineL bs st p = (bs.take p).drop st := by
  unfold pend at h
  unfold lineL cutE
  rw [if_neg (of_decide_eq_false h)]
theorem line_cr {bs : List Int} {st p : Nat} (h0 : st ≤ p) (hp : p < bs.length) (h : bs[p] = 13) : lineL bs st (p + 1) = (bs.take p).drop st ∧ pend bs st (p + 1) = true := by
  have e : bs.getD p 0 = 13 := by simp [List.getD, hp, h]
  refine ⟨?_, ?_⟩
  · unfold lineL cutE
    rw [if_pos ⟨by omega, by simpa using e⟩]; simp
  · unfold pend
    simp only [Nat.add_sub_cancel, e]
    simp; omega
theorem line_other {bs : List Int} {st p : Nat} (h0 : st ≤ p) (hp : p < bs.length) (h : ¬ bs[p] = 13) : lineL bs st (p + 1) = (bs.take p).drop st ++ [bs[p]] ∧ pend bs st (p + 1) = false := by
  have e : ¬ bs.getD p 0 = 13 := by simpa [List.getD, hp] using h
  refine ⟨?_, ?_⟩
  · unfold lineL cutE
    rw [if_neg (fun hh => e (by simpa using hh.2)), List.take_succ_eq_append_getElem hp, List.drop_append_of_le_length (by simp; omega)]
  · unfold pend
    simp only [Nat.add_sub_cancel]
    exact decide_eq_false (fun hh => e hh.2)
theorem line_le (bs : List Int) (st p : Nat) : (lineL bs st p).length ≤ p - st := by
  unfold lineL cutE
  split <;> simp <;> omega
theorem line_start (bs : List Int) (st : Nat) : lineL bs st st = [] := by
  unfold lineL cutE
  rw [if_neg (fun h => by omega)]
  exact List.drop_eq_nil_of_le (by simp; omega)
theorem pend_start (bs : List Int) (st : Nat) : pend bs st st = false := by
  unfold pend
  exact decide_eq_false (fun h => by omega)

end Go.Proofs.Qxb6612358a
