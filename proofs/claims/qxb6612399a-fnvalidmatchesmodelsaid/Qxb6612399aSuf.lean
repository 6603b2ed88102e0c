import Derived.Test.Qxb6612399aAcc
namespace Go.Proofs.Qxb6612399a

/-- l' is what is left of l behind something -/
def Sf (l' l : List Int) : Prop := l' <:+ l
def Pf (l' l : List Int) : Prop := l' <:+ l ∧ l'.length < l.length

theorem Sf.rfl {l : List Int} : Sf l l := List.suffix_refl l
theorem Sf.cons {l' l : List Int} (h : Sf l' l) (c : Int) : Pf l' (c :: l) := ⟨List.IsSuffix.trans h (List.suffix_cons c l), by have := List.IsSuffix.length_le h; simp; omega⟩
theorem Pf.cons {l' l : List Int} (h : Pf l' l) (c : Int) : Pf l' (c :: l) := Sf.cons h.1 c
theorem Pf.sf {l' l : List Int} (h : Pf l' l) : Sf l' l := h.1
theorem Sf.trans {a b c : List Int} (h : Sf a b) (k : Sf b c) : Sf a c := List.IsSuffix.trans h k
theorem Sf.pf {a b c : List Int} (h : Sf a b) (k : Pf b c) : Pf a c := ⟨List.IsSuffix.trans h k.1, by have := List.IsSuffix.length_le h; have := k.2; omega⟩
theorem Pf.then {a b c : List Int} (h : Pf a b) (k : Sf b c) : Pf a c := ⟨List.IsSuffix.trans h.1 k, by have := List.IsSuffix.length_le k; have := h.2; omega⟩

theorem skip_sf : ∀ l : List Int, Sf (skip l) l
  | [] => Sf.rfl
  | c :: l => by
    simp only [skip]
    split
    · exact ((skip_sf l).cons c).1
    · exact Sf.rfl
theorem digits_sf : ∀ l : List Int, Sf (digits l) l
  | [] => Sf.rfl
  | c :: l => by
    simp only [digits]
    split
    · exact ((digits_sf l).cons c).1
    · exact Sf.rfl
theorem str_pf : ∀ (n : Nat) (l l' : List Int), l.length ≤ n → str l = some l' → Pf l' l
  | _, [], _, _, h => by simp [str] at h
  | 0, c :: l, _, hn, _ => by simp at hn
  | n + 1, c :: l, l', hn, h => by
    have hl : l.length ≤ n := by simpa using hn
    unfold str at h
    by_cases h1 : c = 34
    · rw [if_pos h1] at h
      simp only [Option.some.injEq] at h
      subst h
      exact Sf.rfl.cons c
    · rw [if_neg h1] at h
      by_cases h2 : c < 32
      · rw [if_pos h2] at h; simp at h
      · rw [if_neg h2] at h
        by_cases h3 : c = 92
        · rw [if_pos h3] at h
          match l, hl with
          | [], _ => simp at h
          | e :: r, hl =>
            simp only at h
            have hr : r.length ≤ n := by simp at hl; omega
            by_cases h4 : isEsc e = true
            · rw [if_pos h4] at h
              exact ((str_pf n r l' hr h).cons e).cons c
            · rw [if_neg h4] at h
              by_cases h5 : e = 117
              · rw [if_pos h5] at h
                match r, hr with
                | [], _ => simp at h
                | [_], _ => simp at h
                | [_, _], _ => simp at h
                | [_, _, _], _ => simp at h
                | a :: b :: d :: f :: r', hr =>
                  simp only at h
                  by_cases h6 : (isHx a && isHx b && isHx d && isHx f) = true
                  · rw [if_pos h6] at h
                    exact (((((str_pf n r' l' (by simp at hr; omega) h).cons f).cons d).cons b).cons a |>.cons e).cons c
                  · rw [if_neg h6] at h; simp at h
              · rw [if_neg h5] at h; simp at h
        · rw [if_neg h3] at h
          exact (str_pf n l l' hl h).cons c
theorem word_sf : ∀ (w l l' : List Int), word w l = some l' → Sf l' l
  | [], l, l', h => by simp [word] at h; subst h; exact Sf.rfl
  | _ :: _, [], l', h => by simp [word] at h
  | a :: w, c :: l, l', h => by
    simp only [word] at h
    split at h
    · exact ((word_sf w l l' h).cons c).1
    · simp at h
theorem expS_pf {l l' : List Int} (h : expS l = some l') : Pf l' l := by
  cases l with
  | nil => simp [expS] at h
  | cons c r =>
    simp only [expS] at h
    split at h
    · simp only [Option.some.injEq] at h; subst h; exact (digits_sf r).cons c
    · simp at h
theorem expo_sf {l l' : List Int} (h : expo l = some l') : Sf l' l := by
  cases l with
  | nil => simp [expo] at h; subst h; exact Sf.rfl
  | cons c r =>
    simp only [expo] at h
    split at h
    · cases r with
      | nil => simp at h
      | cons d r' =>
        simp only at h
        split at h
        · exact (((expS_pf h).cons d).cons c).1
        · exact ((expS_pf h).cons c).1
    · simp only [Option.some.injEq] at h; subst h; exact Sf.rfl
theorem frac_sf {l l' : List Int} (h : frac l = some l') : Sf l' l := by
  cases l with
  | nil => simp [frac] at h; subst h; exact Sf.rfl
  | cons c r =>
    simp only [frac] at h
    split at h
    · cases r with
      | nil => simp at h
      | cons d r' =>
        simp only at h
        split at h
        · exact ((((expo_sf h).trans (digits_sf r')).cons d).cons c).1
        · simp at h
    · exact expo_sf h
theorem num1_pf {l l' : List Int} (h : num1 l = some l') : Pf l' l := by
  cases l with
  | nil => simp [num1] at h
  | cons c r =>
    simp only [num1] at h
    split at h
    · exact (frac_sf h).cons c
    · split at h
      · exact ((frac_sf h).trans (digits_sf r)).cons c
      · simp at h
theorem num_pf {l l' : List Int} (h : num l = some l') : Pf l' l := by
  cases l with
  | nil => simp [num] at h
  | cons c r =>
    simp only [num] at h
    split at h
    · exact (num1_pf h).cons c
    · exact num1_pf h
theorem scalar_pf {l l' : List Int} (h : scalar l = some l') : Pf l' l := by
  cases l with
  | nil => simp [scalar] at h
  | cons c r =>
    simp only [scalar] at h
    split at h
    · exact (str_pf _ _ _ (Nat.le_refl _) h).cons c
    · split at h
      · exact (word_sf _ _ _ h).cons c
      · split at h
        · exact (word_sf _ _ _ h).cons c
        · split at h
          · exact (word_sf _ _ _ h).cons c
          · split at h
            · exact num_pf h
            · simp at h
theorem elLoop_pf {v : List Int → Option (List Int)} (hv : ∀ l l', v l = some l' → Pf l' l) : ∀ (g : Nat) (l l' : List Int), elLoop v g l = some l' → Pf l' l
  | 0, _, _, h => by simp [elLoop] at h
  | g + 1, l, l', h => by
    simp only [elLoop] at h
    cases hx : v (skip l) with
    | none => simp [hx] at h
    | some l1 =>
      have p1 := (hv _ _ hx).then (skip_sf l)
      simp only [hx] at h
      cases hy : skip l1 with
      | nil => simp [hy] at h
      | cons c r =>
        have p2 : Sf (c :: r) l1 := by rw [← hy]; exact skip_sf l1
        simp only [hy] at h
        split at h
        · simp only [Option.some.injEq] at h; subst h
          exact ((Sf.rfl.cons c).sf.trans p2).pf p1
        · split at h
          · exact (((elLoop_pf hv g r l' h).cons c).sf.trans p2).pf p1
          · simp at h
theorem elems_pf {v : List Int → Option (List Int)} (hv : ∀ l l', v l = some l' → Pf l' l) {l l' : List Int} (h : elems v l = some l') : Pf l' l := by
  simp only [elems] at h
  cases hy : skip l with
  | nil =>
    simp only [hy] at h
    have p := skip_sf l
    rw [hy] at p
    exact (elLoop_pf hv _ _ _ h).then p
  | cons c r =>
    have p : Sf (c :: r) l := by rw [← hy]; exact skip_sf l
    simp only [hy] at h
    split at h
    · simp only [Option.some.injEq] at h; subst h
      exact (Sf.rfl.cons c).then p
    · exact (elLoop_pf hv _ _ _ h).then p
theorem mbLoop_pf {v : List Int → Option (List Int)} (hv : ∀ l l', v l = some l' → Pf l' l) : ∀ (g : Nat) (l l' : List Int), mbLoop v g l = some l' → Pf l' l
  | 0, _, _, h => by simp [mbLoop] at h
  | g + 1, l, l', h => by
    simp only [mbLoop] at h
    cases h0 : skip l with
    | nil => simp [h0] at h
    | cons q r0 =>
      have p0 : Sf (q :: r0) l := by rw [← h0]; exact skip_sf l
      simp only [h0] at h
      split at h
      · cases h1 : str r0 with
        | none => simp [h1] at h
        | some l1 =>
          have p1 := ((str_pf _ _ _ (Nat.le_refl _) h1).cons q).then p0
          simp only [h1] at h
          cases h2 : skip l1 with
          | nil => simp [h2] at h
          | cons d r1 =>
            have p2 : Sf (d :: r1) l1 := by rw [← h2]; exact skip_sf l1
            simp only [h2] at h
            split at h
            · cases h3 : v (skip r1) with
              | none => simp [h3] at h
              | some l2 =>
                have p3 : Pf l2 l := ((((hv _ _ h3).then (skip_sf r1)).cons d).sf.trans p2).pf p1
                simp only [h3] at h
                cases h4 : skip l2 with
                | nil => simp [h4] at h
                | cons c r =>
                  have p4 : Sf (c :: r) l2 := by rw [← h4]; exact skip_sf l2
                  simp only [h4] at h
                  split at h
                  · simp only [Option.some.injEq] at h; subst h
                    exact ((Sf.rfl.cons c).sf.trans p4).pf p3
                  · split at h
                    · exact (((mbLoop_pf hv g r l' h).cons c).sf.trans p4).pf p3
                    · simp at h
            · simp at h
      · simp at h
theorem membs_pf {v : List Int → Option (List Int)} (hv : ∀ l l', v l = some l' → Pf l' l) {l l' : List Int} (h : membs v l = some l') : Pf l' l := by
  simp only [membs] at h
  cases hy : skip l with
  | nil =>
    simp only [hy] at h
    have p := skip_sf l
    rw [hy] at p
    exact (mbLoop_pf hv _ _ _ h).then p
  | cons c r =>
    have p : Sf (c :: r) l := by rw [← hy]; exact skip_sf l
    simp only [hy] at h
    split at h
    · simp only [Option.some.injEq] at h; subst h
      exact (Sf.rfl.cons c).then p
    · exact (mbLoop_pf hv _ _ _ h).then p
theorem val_pf : ∀ (m : Nat) (l l' : List Int), val m l = some l' → Pf l' l
  | 0, l, l', h => scalar_pf h
  | m + 1, l, l', h => by
    cases l with
    | nil => simp [val] at h
    | cons c r =>
      simp only [val] at h
      split at h
      · exact (elems_pf (val_pf m) h).cons c
      · split at h
        · exact (membs_pf (val_pf m) h).cons c
        · exact scalar_pf h
theorem Sf.drop {l' bs : List Int} (h : Sf l' bs) : bs.drop (bs.length - l'.length) = l' := (List.suffix_iff_eq_drop.1 h).symm

end Go.Proofs.Qxb6612399a
