import Derived.Test.Qxb6612399aPlain
namespace Go.Proofs.Qxb6612399a

theorem acc_nil (s : S) : Acc s [] = final s := rfl
theorem acc_cons (s : S) (c : Int) (l : List Int) : Acc s (c :: l) = match nxt s c with | none => false | some s' => Acc s' l := rfl
theorem acc_of {s : S} {c : Int} {l : List Int} {s' : S} (h : nxt s c = some s') : Acc s (c :: l) = Acc s' l := by rw [acc_cons, h]

/-- go on behind a reader's answer -/
def andThen (o : Option (List Int)) (s : S) : Bool := match o with | none => false | some l => Acc s l

/-! ### white space -/
theorem skip_head {l r : List Int} {c : Int} (h : skip l = c :: r) : isSp c = false := by
  induction l with
  | nil => simp [skip] at h
  | cons a l ih =>
    simp only [skip] at h
    split at h
    · exact ih h
    · rename_i hs
      simp only [List.cons.injEq] at h
      rw [← h.1]; simpa using hs
theorem skip_skip (l : List Int) : skip (skip l) = skip l := by
  cases h : skip l with
  | nil => rfl
  | cons c r => simp [skip, skip_head h]
theorem skip_le (l : List Int) : (skip l).length ≤ l.length := by
  induction l with
  | nil => simp [skip]
  | cons a l ih =>
    simp only [skip]
    split
    · simp; omega
    · simp
theorem acc_skip (s : S) (hs : ∀ c, isSp c = true → nxt s c = some s) (l : List Int) : Acc s l = Acc s (skip l) := by
  induction l with
  | nil => rfl
  | cons a l ih =>
    simp only [skip]
    by_cases h : isSp a = true
    · rw [if_pos h, acc_of (hs a h)]; exact ih
    · rw [if_neg h]
theorem sp0 (σ : List Bool) : ∀ c, isSp c = true → nxt (mk 0 σ) c = some (mk 0 σ) := by intro c h; simp [nxt, mk, h]
theorem sp1 (σ : List Bool) : ∀ c, isSp c = true → nxt (mk 1 σ) c = some (mk 1 σ) := by intro c h; simp [nxt, mk, h]
theorem sp2 (σ : List Bool) : ∀ c, isSp c = true → nxt (mk 2 σ) c = some (mk 2 σ) := by intro c h; simp [nxt, mk, h]
theorem sp3 (σ : List Bool) : ∀ c, isSp c = true → nxt (mk 3 σ) c = some (mk 3 σ) := by intro c h; simp [nxt, mk, h]
theorem sp4 (σ : List Bool) : ∀ c, isSp c = true → nxt (mk 4 σ) c = some (mk 4 σ) := by intro c h; simp [nxt, mk, h]
theorem sp5 (σ : List Bool) : ∀ c, isSp c = true → nxt (mk 5 σ) c = some (mk 5 σ) := by intro c h; simp [nxt, mk, flw, h]

/-! ### strings -/
theorem acc_hex (σ : List Bool) (k : Bool) (l : List Int) : Acc ⟨8, σ, k, [], 4⟩ l = match l with
    | h1 :: h2 :: h3 :: h4 :: r' => if isHx h1 && isHx h2 && isHx h3 && isHx h4 then Acc (inStr σ k) r' else false
    | _ => false := by
  match l with
  | [] => rfl
  | [a] => cases h1 : isHx a <;> simp [Acc, nxt, h1, final]
  | [a, b] => cases h1 : isHx a <;> cases h2 : isHx b <;> simp [Acc, nxt, h1, h2, final]
  | [a, b, c] => cases h1 : isHx a <;> cases h2 : isHx b <;> cases h3 : isHx c <;> simp [Acc, nxt, h1, h2, h3, final]
  | a :: b :: c :: d :: r => cases h1 : isHx a <;> cases h2 : isHx b <;> cases h3 : isHx c <;> cases h4 : isHx d <;> simp [Acc, nxt, h1, h2, h3, h4]

theorem acc_str (σ : List Bool) (k : Bool) : ∀ (n : Nat) (l : List Int), l.length ≤ n → Acc (inStr σ k) l = andThen (str l) (mk (if k then 4 else 5) σ)
  | n, [], _ => by simp [Acc, final, inStr, str, andThen]
  | 0, c :: l, h => by simp at h
  | n + 1, c :: l, h => by
    have hl : l.length ≤ n := by simpa using h
    unfold str
    by_cases h1 : c = 34
    · subst h1
      rw [acc_cons]
      simp only [nxt, inStr, if_true]
      rfl
    · by_cases h2 : c = 92
      · subst h2
        rw [acc_cons]
        simp only [nxt, inStr]
        simp only [show ¬ (92 : Int) = 34 by decide, show ¬ (92 : Int) < 32 by decide, if_false, if_true]
        match l, hl with
        | [], _ => rfl
        | e :: r, hl =>
          have hr : r.length ≤ n := by simp at hl; omega
          simp only
          rw [acc_cons]
          simp only [nxt]
          by_cases h3 : isEsc e = true
          · simp only [h3, if_true]
            exact acc_str σ k n r hr
          · simp only [h3, if_false, Bool.false_eq_true]
            by_cases h4 : e = 117
            · simp only [h4, if_true]
              rw [acc_hex]
              match r, hr with
              | [], _ => rfl
              | [_], _ => rfl
              | [_, _], _ => rfl
              | [_, _, _], _ => rfl
              | a :: b :: c :: d :: r', hr =>
                simp only
                by_cases h5 : (isHx a && isHx b && isHx c && isHx d) = true
                · simp only [h5, if_true]
                  exact acc_str σ k n r' (by simp at hr; omega)
                · simp only [h5, if_false, Bool.false_eq_true]; rfl
            · simp only [h4, if_false]; rfl
      · rw [acc_cons]
        simp only [nxt, inStr, h1, h2, if_false]
        by_cases h3 : c < 32
        · simp only [h3, if_true]; rfl
        · simp only [h3, if_false]
          exact acc_str σ k n l hl

/-! ### literals -/
theorem acc_word (σ : List Bool) : ∀ (a : Int) (w l : List Int), Acc ⟨9, σ, false, a :: w, 0⟩ l = andThen (word (a :: w) l) (mk 5 σ)
  | a, w, [] => by simp [Acc, final, word, andThen]
  | a, w, c :: l => by
    rw [acc_cons]
    simp only [nxt, word]
    by_cases h : c = a
    · simp only [h, if_true]
      match w with
      | [] => simp [word, andThen]
      | b :: w' =>
        simp only [reduceCtorEq, if_false]
        exact acc_word σ b w' l
    · simp only [h, if_false]; rfl


/-! ### numbers -/
theorem dg_not_sp {c : Int} (h : isDg c = true) : isSp c = false := by
  simp [isDg] at h
  simp [isSp]; omega
theorem acc17 (σ : List Bool) (l : List Int) : Acc (mk 17 σ) l = Acc (mk 5 σ) (digits l) := by
  induction l with
  | nil => simp [Acc, final, mk, digits]
  | cons c l ih =>
    simp only [digits]
    by_cases h : isDg c = true
    · rw [if_pos h, acc_of (s' := mk 17 σ) (by simp [nxt, mk, h])]; exact ih
    · rw [if_neg h, acc_cons, acc_cons]
      simp [nxt, mk, h]
theorem acc_expS {σ : List Bool} {st : Nat} (h : ∀ c, nxt (mk st σ) c = if isDg c then some (mk 17 σ) else none) (hf : final (mk st σ) = false) (l : List Int) : Acc (mk st σ) l = andThen (expS l) (mk 5 σ) := by
  cases l with
  | nil => simp [Acc, hf, expS, andThen]
  | cons c r =>
    rw [acc_cons, h c]
    simp only [expS]
    by_cases hd : isDg c = true
    · simp only [hd, if_true, andThen]; exact acc17 σ r
    · simp only [hd, if_false, Bool.false_eq_true]; rfl
theorem acc15 (σ : List Bool) (r : List Int) : Acc (mk 15 σ) r = andThen (match r with | [] => none | d :: r' => if d = 43 ∨ d = 45 then expS r' else expS r) (mk 5 σ) := by
  cases r with
  | nil => simp [Acc, final, mk, andThen]
  | cons d r' =>
    rw [acc_cons]
    simp only [nxt, mk]
    by_cases hd : d = 43 ∨ d = 45
    · simp only [hd, if_true]
      exact acc_expS (st := 16) (fun c => rfl) rfl r'
    · simp only [hd, if_false, expS]
      by_cases hg : isDg d = true
      · simp only [hg, if_true, andThen]; exact acc17 σ r'
      · simp only [hg, if_false, Bool.false_eq_true]; rfl
/-- the states in which a number may end -/
theorem acc14 (σ : List Bool) (l : List Int) : Acc (mk 14 σ) l = andThen (expo (digits l)) (mk 5 σ) := by
  induction l with
  | nil => simp [Acc, final, mk, digits, expo, andThen]
  | cons c l ih =>
    simp only [digits]
    by_cases h : isDg c = true
    · rw [if_pos h, acc_of (s' := mk 14 σ) (by simp [nxt, mk, h])]; exact ih
    · rw [if_neg h, acc_cons]
      simp only [nxt, mk, h, if_false, expo, Bool.false_eq_true]
      by_cases he : c = 101 ∨ c = 69
      · simp only [he, if_true]; exact acc15 σ l
      · simp only [he, if_false, andThen]; rfl
theorem acc13 (σ : List Bool) (r : List Int) : Acc (mk 13 σ) r = andThen (match r with | [] => none | d :: r' => if isDg d then expo (digits r') else none) (mk 5 σ) := by
  cases r with
  | nil => simp [Acc, final, mk, andThen]
  | cons d r' =>
    rw [acc_cons]
    simp only [nxt, mk]
    by_cases hg : isDg d = true
    · simp only [hg, if_true]; exact acc14 σ r'
    · simp only [hg, if_false, Bool.false_eq_true]; rfl
theorem acc11 (σ : List Bool) (l : List Int) : Acc (mk 11 σ) l = andThen (frac l) (mk 5 σ) := by
  cases l with
  | nil => simp [Acc, final, mk, frac, andThen]
  | cons c r =>
    rw [acc_cons]
    simp only [nxt, mk, frac, expo]
    by_cases h1 : c = 46
    · simp only [h1, if_true]; exact acc13 σ r
    · simp only [h1, if_false]
      by_cases he : c = 101 ∨ c = 69
      · simp only [he, if_true]; exact acc15 σ r
      · simp only [he, if_false, andThen]; rfl
theorem acc12 (σ : List Bool) (l : List Int) : Acc (mk 12 σ) l = andThen (frac (digits l)) (mk 5 σ) := by
  induction l with
  | nil => simp [Acc, final, mk, digits, frac, andThen]
  | cons c l ih =>
    simp only [digits]
    by_cases h : isDg c = true
    · rw [if_pos h, acc_of (s' := mk 12 σ) (by simp [nxt, mk, h])]; exact ih
    · rw [if_neg h, ← acc11, acc_cons, acc_cons]
      simp [nxt, mk, h]
theorem acc10 (σ : List Bool) (l : List Int) : Acc (mk 10 σ) l = andThen (num1 l) (mk 5 σ) := by
  cases l with
  | nil => simp [Acc, final, mk, num1, andThen]
  | cons c r =>
    rw [acc_cons]
    simp only [nxt, mk, num1]
    by_cases h1 : c = 48
    · simp only [h1, if_true]; exact acc11 σ r
    · by_cases h2 : isDg c = true
      · have h3 : 49 ≤ c ∧ c ≤ 57 := by simp [isDg] at h2; omega
        simp only [h1, if_false, h2, h3, if_true, and_self]; exact acc12 σ r
      · have h3 : ¬ (49 ≤ c ∧ c ≤ 57) := by simp [isDg] at h2; omega
        simp only [h1, if_false, h2, h3, Bool.false_eq_true]; rfl

/-- a value that is no bracket -/
theorem acc_scalar (σ : List Bool) (c : Int) (r : List Int) (hs : isSp c = false) (h1 : ¬ c = 91) (h2 : ¬ c = 123) : Acc (mk 0 σ) (c :: r) = andThen (scalar (c :: r)) (mk 5 σ) := by
  rw [acc_cons]
  simp only [nxt, mk, hs, if_false, Bool.false_eq_true, bgn, h1, h2, scalar]
  by_cases h3 : c = 34
  · simp only [h3, if_true]; exact acc_str σ false _ r (Nat.le_refl _)
  · by_cases h4 : c = 116
    · simp only [h4, if_true, show ¬ (116 : Int) = 34 by decide, if_false]; exact acc_word σ _ _ r
    · by_cases h5 : c = 102
      · simp only [h5, if_true, show ¬ (102 : Int) = 34 by decide, show ¬ (102 : Int) = 116 by decide, if_false]; exact acc_word σ _ _ r
      · by_cases h6 : c = 110
        · simp only [h6, if_true, show ¬ (110 : Int) = 34 by decide, show ¬ (110 : Int) = 116 by decide, show ¬ (110 : Int) = 102 by decide, if_false]; exact acc_word σ _ _ r
        · by_cases h7 : c = 45
          · simp only [h7, if_true, show ¬ (45 : Int) = 34 by decide, show ¬ (45 : Int) = 116 by decide, show ¬ (45 : Int) = 102 by decide, show ¬ (45 : Int) = 110 by decide, if_false, true_or, num]; exact acc10 σ r
          · by_cases h8 : isDg c = true
            · have hn : num (c :: r) = num1 (c :: r) := by simp [num, h7]
              simp only [h3, h4, h5, h6, h7, h8, if_false, or_true, if_true, hn, num1]
              by_cases h9 : c = 48
              · simp only [h9, if_true]; exact acc11 σ r
              · have h10 : 49 ≤ c ∧ c ≤ 57 := by simp [isDg] at h8; omega
                simp only [h9, h10, if_false, if_true, and_self]; exact acc12 σ r
            · have h9 : ¬ c = 48 := by simp [isDg] at h8; omega
              have h10 : ¬ (49 ≤ c ∧ c ≤ 57) := by simp [isDg] at h8; omega
              simp only [h3, h4, h5, h6, h7, h8, h9, h10, if_false, or_self, Bool.false_eq_true]; rfl

end Go.Proofs.Qxb6612399a
