/- The plain law of FnTaskKeysNameByPosition: positions and keys. -/
import Derived.Test.Qxb6612358aCom
namespace Go.Proofs.Qxb6612358a
open Go.RowKit

def PosB (ns : List Nat) (p j : Nat) : Prop := j ≤ ns.length ∧ (∀ i, i < j → ns.getD i 0 < p) ∧ (j < ns.length → p ≤ ns.getD j 0)
def PosI (ns : List Nat) (p j : Nat) : Prop := j ≤ ns.length ∧ ∀ i, i < j → ns.getD i 0 ≤ p
def PosA (ns : List Nat) (p j : Nat) : Prop := PosI ns p j ∧ (j < ns.length → p < ns.getD j 0)

theorem PosB.toI {ns : List Nat} {p j : Nat} (h : PosB ns p j) : PosI ns p j := ⟨h.1, fun i hi => Nat.le_of_lt (h.2.1 i hi)⟩
theorem PosI.succ {ns : List Nat} {p j : Nat} (h : PosI ns p j) (hj : j < ns.length) (hp : ns.getD j 0 ≤ p) : PosI ns p (j + 1) := by
  refine ⟨hj, fun i hi => ?_⟩
  by_cases hij : i = j
  · subst hij; exact hp
  · exact h.2 i (by omega)
theorem PosA.next {ns : List Nat} {p j : Nat} (h : PosA ns p j) : PosB ns (p + 1) j :=
  ⟨h.1.1, fun i hi => Nat.lt_succ_of_le (h.1.2 i hi), fun hj => h.2 hj⟩

theorem Valid.mono {kl : Nat} {ns : List Nat} (hv : Valid kl ns) : ∀ (d i : Nat), i + d < ns.length → ns.getD i 0 ≤ ns.getD (i + d) 0
  | 0, i, _ => Nat.le_refl _
  | d + 1, i, h => by
    have h1 := hv.mono d i (by omega)
    have h2 := hv.gap (i + d + 1) (by omega)
    have h3 : pre ns (i + d + 1) = ns.getD (i + d) 0 := by simp [pre]
    rw [h3] at h2
    have e : i + (d + 1) = i + d + 1 := by omega
    rw [e]; omega

theorem PosA.at {kl k p j : Nat} {ns : List Nat} (hv : Valid kl ns) (h : PosA ns p j) (hk : k < ns.length) : j = k ↔ (pre ns k ≤ p ∧ p < ns.getD k 0) := by
  constructor
  · rintro rfl
    refine ⟨?_, h.2 hk⟩
    by_cases h0 : j = 0
    · simp [pre, h0]
    · have := h.1.2 (j - 1) (by omega)
      simpa [pre, h0] using this
  · rintro ⟨h1, h2⟩
    rcases Nat.lt_trichotomy j k with hlt | heq | hgt
    · have hj := h.2 (by omega)
      have hm := hv.mono (k - 1 - j) j (by omega)
      have e : j + (k - 1 - j) = k - 1 := by omega
      rw [e] at hm
      have hp : pre ns k = ns.getD (k - 1) 0 := by simp [pre, show ¬ k = 0 by omega]
      omega
    · exact heq
    · have := h.1.2 k hgt
      omega

/-- what has been gathered, p positions gone through -/
def wantL (ks : List Int) (S E p : Nat) : List Int := (ks.take (min p E)).drop (S + 4)
def seenN (S E p : Nat) : Nat := min p E - min p S

theorem want_in {ks : List Int} {S E p : Nat} (hp : p < ks.length) (h1 : S + 4 ≤ p) (h2 : p < E) : wantL ks S E (p + 1) = wantL ks S E p ++ [ks[p]] := by
  unfold wantL
  rw [show min (p + 1) E = p + 1 by omega, show min p E = p by omega, List.take_succ_eq_append_getElem hp, List.drop_append_of_le_length (by simp; omega)]
theorem want_early {ks : List Int} {S E p : Nat} (h1 : p < S + 4) : wantL ks S E (p + 1) = wantL ks S E p := by
  unfold wantL
  rw [List.drop_eq_nil_of_le (by simp; omega), List.drop_eq_nil_of_le (by simp; omega)]
theorem want_late {ks : List Int} {S E p : Nat} (h1 : E ≤ p) : wantL ks S E (p + 1) = wantL ks S E p := by
  unfold wantL
  rw [show min (p + 1) E = E by omega, show min p E = E by omega]
theorem want_end {ks : List Int} {S E : Nat} (h : E ≤ ks.length) : wantL ks S E ks.length = (ks.drop (S + 4)).take (E - S - 4) := by
  unfold wantL
  rw [show min ks.length E = E by omega, List.drop_take, show E - (S + 4) = E - S - 4 by omega]
theorem want_le {ks : List Int} {S E p : Nat} : (wantL ks S E p).length ≤ p := by
  unfold wantL
  simp; omega
theorem seen_in {S E p : Nat} (h1 : S ≤ p) (h2 : p < E) : seenN S E p = p - S ∧ seenN S E (p + 1) = p - S + 1 := by unfold seenN; omega
theorem seen_out {S E p : Nat} (hS : S ≤ E) (h : ¬ (S ≤ p ∧ p < E)) : seenN S E (p + 1) = seenN S E p := by unfold seenN; omega

end Go.Proofs.Qxb6612358a
