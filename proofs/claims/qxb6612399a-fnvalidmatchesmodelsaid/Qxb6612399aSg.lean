/- feed: what its loop keeps. -/
import Derived.Test.Qxb6612399aSf
import Derived.Deep.LoopGhost
import Derived.Deep.CutBlock
namespace Go.Proofs.Qxb6612399a
open Go.RowKit
set_option linter.unusedVariables false

theorem Cel.below {w w' : World} {g B : Nat} {bs : List Int} (h : Cel w g bs) (hb : Below B w w') (hg : g < B) : Cel w' g bs := by
  intro i c hi
  rw [hb.cell (p := ⟨g, i, none⟩) hg]
  exact h i c hi

def FeedP (B : Nat) (w0 : World) (t : Nat) (A0 : Bool) (e : Ending) (w' : World) : Prop :=
  (e = .returned (.bool false) ∧ A0 = false ∧ Below B w0 w') ∨ (e = .returned (.bool true) ∧ ∃ s, Sc B w0 w' t s ∧ A0 = Acc s [])
def nm (n k : Nat) (s : S) : Nat := 2 * (n + 1 - k) + (if 10 ≤ s.st then 1 else 0)
def FRel (B : Nat) (w0 : World) (t n : Nat) (bs : List Int) (A0 : Bool) (q : Nat) (v : Value) (wr : World) : Prop :=
  ∃ k s, v = .int .i64 (k : Nat) ∧ k ≤ n + 1 ∧ Sc B w0 wr t s ∧ A0 = Acc s (bs.drop k) ∧ q = nm n k s
/-- behind the switch -/
def FMid (B : Nat) (w0 : World) (t n : Nat) (bs : List Int) (A0 : Bool) (q : Nat) (v : Value) (wr : World) : Prop :=
  (Bad B w0 wr t ∧ A0 = false ∧ ∃ j : Int, v = .int .i64 j) ∨ ∃ k s, v = .int .i64 ((k : Nat) - 1 : Int) ∧ k ≤ n + 1 ∧ Sc B w0 wr t s ∧ A0 = Acc s (bs.drop k) ∧ nm n k s < q

theorem acc_cns (s : S) (c : Int) (r : List Int) : Acc s (c :: r) = match nxt s c with | none => false | some s' => Acc s' r := rfl
theorem nm_lt (n k j : Nat) (s s' : S) (h : k ≤ j) (hj : j ≤ n) : nm n (j + 1) s' < nm n k s := by
  simp only [nm]
  split <;> split <;> omega
theorem mid_step {B : Nat} {w0 w' : World} {t n k : Nat} {bs r : List Int} {A0 : Bool} {s : S} {c : Int} (hA : A0 = Acc s (bs.drop k)) (hd : bs.drop k = c :: r) (hdr : bs.drop (k + 1) = r) (hk : k < n)
    (h : StepP B w0 t (nxt s c) w') : FMid B w0 t n bs A0 (nm n k s) (.int .i64 (k : Int)) w' := by
  rw [hd, acc_cns] at hA
  cases hN : nxt s c with
  | none => rw [hN] at hA h; exact .inl ⟨h, hA, k, rfl⟩
  | some s' =>
    rw [hN] at hA h
    refine .inr ⟨k + 1, s', ?_, by omega, h, by rw [hdr]; exact hA, nm_lt n k k s s' (Nat.le_refl _) (by omega)⟩
    congr 1
    omega
theorem mid_in {B : Nat} {w0 w' : World} {t n k : Nat} {bs : List Int} {A0 : Bool} {s : S} {e : Ending} (h : InP B w0 t bs k n A0 e w') : ∃ v, e = .returned v ∧ FMid B w0 t n bs A0 (nm n k s) v w' := by
  obtain ⟨j, rfl, h1, h2, h3⟩ := h
  refine ⟨_, rfl, ?_⟩
  rcases h3 with ⟨hb, ha⟩ | ⟨s', hs, ha⟩
  · exact .inl ⟨hb, ha, j, rfl⟩
  · refine .inr ⟨j + 1, s', ?_, by omega, hs, ha, nm_lt n k j s s' h1 h2⟩
    congr 1
    omega
theorem mid_num {B : Nat} {w0 w' : World} {t n k : Nat} {bs r : List Int} {A0 : Bool} {s : S} {c : Int} {e : Ending} (hA : A0 = Acc s (bs.drop k)) (hd : bs.drop k = c :: r) (hdr : bs.drop (k + 1) = r) (hk : k < n) (hs : 10 ≤ s.st)
    (h : NumP B w0 t s c k e w') : ∃ v, e = .returned v ∧ FMid B w0 t n bs A0 (nm n k s) v w' := by
  rcases h with ⟨rfl, h⟩ | ⟨rfl, h1, h2⟩
  · exact ⟨_, rfl, mid_step hA hd hdr hk h⟩
  · refine ⟨_, rfl, .inr ⟨k, mk 5 s.stk, rfl, by omega, h2, ?_, ?_⟩⟩
    · rw [hA, hd, acc_cns, acc_cns, h1]
      exact rfl
    · simp only [nm, mk]
      rw [if_pos hs]
      simp
end Go.Proofs.Qxb6612399a
