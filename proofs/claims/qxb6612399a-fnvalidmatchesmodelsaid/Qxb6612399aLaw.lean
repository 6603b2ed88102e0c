import Derived.Test.Qxb6612399aSuf
namespace Go.Proofs.Qxb6612399a

/-- what the law says of a reader of values at m brackets to come -/
def Reads (v : List Int → Option (List Int)) (σ : List Bool) : Prop := ∀ l, Acc (mk 0 σ) l = andThen (v (skip l)) (mk 5 σ)

theorem acc5_nil (b : Bool) (σ : List Bool) : Acc (mk 5 (b :: σ)) [] = false := by simp [Acc, final, mk]

theorem acc_elLoop {v : List Int → Option (List Int)} {σ : List Bool} (hv : Reads v (false :: σ)) (hp : ∀ l l', v l = some l' → Pf l' l) :
    ∀ (g : Nat) (l : List Int), l.length < g → Acc (mk 0 (false :: σ)) l = andThen (elLoop v g l) (mk 5 σ)
  | 0, _, h => by omega
  | g + 1, l, h => by
    rw [hv l]
    simp only [elLoop]
    cases hx : v (skip l) with
    | none => rfl
    | some l1 =>
      have p1 := (hp _ _ hx).then (skip_sf l)
      simp only [andThen]
      rw [acc_skip _ (sp5 _)]
      cases hy : skip l1 with
      | nil => rw [acc5_nil]
      | cons c r =>
        have p2 : Sf (c :: r) l1 := by rw [← hy]; exact skip_sf l1
        have hs := skip_head hy
        have hlen : r.length < l.length := by
          have h1 := List.IsSuffix.length_le p2
          have h2 := p1.2
          simp at h1; omega
        rw [acc_cons]
        simp only [nxt, mk, flw, hs, if_false, Bool.false_eq_true]
        by_cases h1 : c = 93
        · subst h1; simp
        · by_cases h2 : c = 44
          · subst h2
            have := acc_elLoop hv hp g r (by omega)
            simpa [andThen, mk] using this
          · simp [h1, h2]
theorem acc_elems {v : List Int → Option (List Int)} {σ : List Bool} (hv : Reads v (false :: σ)) (hp : ∀ l l', v l = some l' → Pf l' l) (l : List Int) :
    Acc (mk 1 (false :: σ)) l = andThen (elems v l) (mk 5 σ) := by
  rw [acc_skip _ (sp1 _)]
  simp only [elems]
  cases hy : skip l with
  | nil =>
    have hv0 : v [] = none := by
      cases h : v [] with
      | none => rfl
      | some l' => have := (hp _ _ h).2; simp at this
    simp [Acc, final, mk, elLoop, skip, hv0, andThen]
  | cons c r =>
    have hs := skip_head hy
    by_cases h1 : c = 93
    · subst h1
      simp [Acc, nxt, mk, hs, andThen]
    · simp only [h1, if_false]
      rw [← acc_elLoop hv hp (r.length + 2) (c :: r) (by simp), acc_cons, acc_cons]
      simp only [nxt, mk, hs, h1, if_false, Bool.false_eq_true]

theorem acc_mbLoop {v : List Int → Option (List Int)} {σ : List Bool} (hv : Reads v (true :: σ)) (hp : ∀ l l', v l = some l' → Pf l' l) :
    ∀ (g : Nat) (l : List Int), l.length < g → Acc (mk 3 (true :: σ)) l = andThen (mbLoop v g l) (mk 5 σ)
  | 0, _, h => by omega
  | g + 1, l, h => by
    rw [acc_skip _ (sp3 _)]
    simp only [mbLoop]
    cases h0 : skip l with
    | nil => rfl
    | cons q r0 =>
      have p0 : Sf (q :: r0) l := by rw [← h0]; exact skip_sf l
      have hs0 := skip_head h0
      rw [acc_cons]
      simp only [nxt, mk, hs0, if_false, Bool.false_eq_true]
      by_cases hq : q = 34
      · simp only [hq, if_true]
        have e1 := acc_str (true :: σ) true _ r0 (Nat.le_refl _)
        simp only [if_true] at e1
        rw [e1]
        cases h1 : str r0 with
        | none => rfl
        | some l1 =>
          have p1 := ((str_pf _ _ _ (Nat.le_refl _) h1).cons q).then p0
          simp only [andThen]
          rw [acc_skip _ (sp4 _)]
          cases h2 : skip l1 with
          | nil => rfl
          | cons d r1 =>
            have p2 : Sf (d :: r1) l1 := by rw [← h2]; exact skip_sf l1
            have hs2 := skip_head h2
            rw [acc_cons]
            simp only [nxt, mk, hs2, if_false, Bool.false_eq_true]
            by_cases hd : d = 58
            · simp only [hd, if_true]
              have e2 := hv r1
              simp only [mk] at e2
              rw [e2]
              cases h3 : v (skip r1) with
              | none => rfl
              | some l2 =>
                have p3 : Pf l2 l := ((((hp _ _ h3).then (skip_sf r1)).cons d).sf.trans p2).pf p1
                have e3 := acc_skip _ (sp5 (true :: σ)) l2
                simp only [andThen, mk] at e3 ⊢
                rw [e3]
                cases h4 : skip l2 with
                | nil => rfl
                | cons c r =>
                  have p4 : Sf (c :: r) l2 := by rw [← h4]; exact skip_sf l2
                  have hs4 := skip_head h4
                  have hlen : r.length < l.length := by
                    have h5 := List.IsSuffix.length_le p4
                    have h6 := p3.2
                    simp at h5; omega
                  rw [acc_cons]
                  simp only [nxt, mk, flw, hs4, if_false, Bool.false_eq_true]
                  by_cases hc : c = 125
                  · subst hc; simp
                  · by_cases hc2 : c = 44
                    · subst hc2
                      have := acc_mbLoop hv hp g r (by omega)
                      simpa [andThen, mk] using this
                    · simp [hc, hc2]
            · simp only [hd, if_false]
      · simp only [hq, if_false]; rfl
theorem acc_membs {v : List Int → Option (List Int)} {σ : List Bool} (hv : Reads v (true :: σ)) (hp : ∀ l l', v l = some l' → Pf l' l) (l : List Int) :
    Acc (mk 2 (true :: σ)) l = andThen (membs v l) (mk 5 σ) := by
  rw [acc_skip _ (sp2 _)]
  simp only [membs]
  cases hy : skip l with
  | nil => rfl
  | cons c r =>
    have hs := skip_head hy
    by_cases h1 : c = 125
    · subst h1
      simp [Acc, nxt, mk, hs, andThen]
    · simp only [h1, if_false]
      rw [← acc_mbLoop hv hp (r.length + 2) (c :: r) (by simp), acc_cons, acc_cons]
      simp only [nxt, mk, hs, h1, if_false, Bool.false_eq_true]

theorem acc_val : ∀ (m : Nat) (σ : List Bool), σ.length + m = 10000 → Reads (val m) σ
  | 0, σ, h, l => by
    rw [acc_skip _ (sp0 _)]
    cases hy : skip l with
    | nil => rfl
    | cons c r =>
      have hs := skip_head hy
      simp only [val]
      have hl : σ.length = 10000 := by omega
      by_cases h1 : c = 91
      · subst h1; simp [Acc, nxt, mk, hs, bgn, hl, scalar, isDg, andThen]
      · by_cases h2 : c = 123
        · subst h2; simp [Acc, nxt, mk, hs, bgn, hl, scalar, isDg, andThen]
        · exact acc_scalar σ c r hs h1 h2
  | m + 1, σ, h, l => by
    rw [acc_skip _ (sp0 _)]
    cases hy : skip l with
    | nil => rfl
    | cons c r =>
      have hs := skip_head hy
      have hl : ¬ σ.length = 10000 := by omega
      simp only [val]
      by_cases h1 : c = 91
      · subst h1
        rw [acc_cons]
        simp only [nxt, mk, hs, bgn, hl, if_false, if_true, Bool.false_eq_true, show ¬ (91 : Int) = 123 by decide]
        exact acc_elems (acc_val m (false :: σ) (by simp; omega)) (val_pf m) r
      · by_cases h2 : c = 123
        · subst h2
          rw [acc_cons]
          simp only [nxt, mk, hs, bgn, hl, if_false, if_true, Bool.false_eq_true, h1]
          exact acc_membs (acc_val m (true :: σ) (by simp; omega)) (val_pf m) r
        · simp only [h1, h2, if_false]
          exact acc_scalar σ c r hs h1 h2

/-- ████ the plain law ████ -/
theorem acc_ok (l : List Int) : Acc (mk 0 []) l = okJ l := by
  rw [acc_val 10000 [] (by simp) l]
  unfold okJ
  cases h : val 10000 (skip l) with
  | none => rfl
  | some l' =>
    simp only [andThen]
    rw [acc_skip _ (sp5 _)]
    cases hy : skip l' with
    | nil => rfl
    | cons c r =>
      have hs := skip_head hy
      simp [Acc, nxt, mk, flw, hs]

end Go.Proofs.Qxb6612399a
