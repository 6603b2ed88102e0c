/- The recursive descent's leaves, walked. -/
import Derived.Test.Qxb6612399aCom
namespace Go.Proofs.Qxb6612399a
open Go.RowKit
set_option linter.unusedVariables false

/-- the bytes bs lie at block g -/
def Cel (w : World) (g : Nat) (bs : List Int) : Prop := ∀ (i : Nat) (c : Int), bs[i]? = some c → w.cell? ⟨g, i, none⟩ = some (.int .u8 c)
theorem Cel.drewN {w : World} {g : Nat} {bs : List Int} (h : Cel w g bs) (m : Nat) : Cel (w.drewN m) g bs := h
theorem drop_at {bs r : List Int} {i : Nat} {c : Int} (h : bs.drop i = c :: r) : bs[i]? = some c ∧ i < bs.length ∧ bs.drop (i + 1) = r := by
  have hi : i < bs.length := by
    rcases Nat.lt_or_ge i bs.length with hlt | hge
    · exact hlt
    · rw [List.drop_eq_nil_of_le hge] at h; simp at h
  have e := List.drop_eq_getElem_cons hi
  rw [e] at h
  simp only [List.cons.injEq] at h
  exact ⟨by simp [hi, h.1], hi, h.2⟩
theorem Cel.rd {w : World} {g : Nat} {bs r : List Int} {i : Nat} {c : Int} (h : Cel w g bs) (hd : bs.drop i = c :: r) : w.cell? ⟨g, i, none⟩ = some (.int .u8 c) := h i c (drop_at hd).1
theorem drop_nil {bs : List Int} {i : Nat} (h : bs.drop i = []) : bs.length ≤ i := by simpa using h

/-- an index, or minus one -/
def idx (n : Nat) (o : Option (List Int)) : Int := match o with | none => -1 | some l => ((n - l.length : Nat) : Int)

theorem sp19 (c : Int) (w : World) : Calls Try.prog 19 #[.int .u8 c] w fun e w' => e = .returned (.bool (isSp c)) ∧ w' = w := by
  by_cases h1 : c = 32
  · subst h1
    go_enter Try.func19, Try.ntmps19
    go_wp2
    go_ret
    exact ⟨rfl, rfl⟩
  · have h1' : (c == 32) = false := by simpa using h1
    by_cases h2 : c = 9
    · subst h2
      go_enter Try.func19, Try.ntmps19
      go_wp2
      go_ret
      exact ⟨rfl, rfl⟩
    · have h2' : (c == 9) = false := by simpa using h2
      by_cases h3 : c = 13
      · subst h3
        go_enter Try.func19, Try.ntmps19
        go_wp2
        go_ret
        exact ⟨rfl, rfl⟩
      · have h3' : (c == 13) = false := by simpa using h3
        have e : isSp c = (c == 10) := by simp [isSp, h1, h2, h3]
        rw [e]
        clear e
        go_enter Try.func19, Try.ntmps19
        go_wp2
        go_ret
        exact ⟨rfl, rfl⟩
theorem dg17 (c : Int) (w : World) : Calls Try.prog 17 #[.int .u8 c] w fun e w' => e = .returned (.bool (isDg c)) ∧ w' = w := by
  by_cases h1 : 48 ≤ c
  · have e : isDg c = decide (c ≤ 57) := by simp [isDg, h1]
    rw [e]
    clear e
    have h1' : decide (48 ≤ c) = true := by simpa using h1
    go_enter Try.func17, Try.ntmps17
    go_wp2
    go_ret
    exact ⟨rfl, rfl⟩
  · have e : isDg c = false := by simp [isDg, h1]
    rw [e]
    clear e
    have h1' : decide (48 ≤ c) = false := by simpa using h1
    go_enter Try.func17, Try.ntmps17
    go_wp2
    go_ret
    exact ⟨rfl, rfl⟩

set_option maxHeartbeats 400000 in
theorem hx27 (c : Int) (w : World) : Calls Try.prog 27 #[.int .u8 c] w fun e w' => e = .returned (.bool (isHx c)) ∧ w' = w := by
  cases hd : isDg c
  · by_cases h2 : 97 ≤ c
    · have h2' : decide (97 ≤ c) = true := by simpa using h2
      by_cases h3 : c ≤ 102
      · have h3' : decide (c ≤ 102) = true := by simpa using h3
        have e : isHx c = true := by simp [isHx, h2, h3]
        rw [e]
        go_enter Try.func27, Try.ntmps27
        go_wp2_with (go_at_call 17; refine (dg17 _ _).mono ?_; rintro e w' ⟨rfl, hw'⟩; rw [hw']; clear hw' w')
        go_ret
        exact ⟨rfl, rfl⟩
      · have h3' : decide (c ≤ 102) = false := by simpa using h3
        have h4' : decide (65 ≤ c) = true := by simp; omega
        have h5' : decide (c ≤ 70) = false := by simp; omega
        have e : isHx c = false := by simp [isHx, hd, h3]; omega
        rw [e]
        go_enter Try.func27, Try.ntmps27
        go_wp2_with (go_at_call 17; refine (dg17 _ _).mono ?_; rintro e w' ⟨rfl, hw'⟩; rw [hw']; clear hw' w')
        go_ret
        exact ⟨rfl, rfl⟩
    · have h2' : decide (97 ≤ c) = false := by simpa using h2
      by_cases h4 : 65 ≤ c
      · have h4' : decide (65 ≤ c) = true := by simpa using h4
        have e : isHx c = decide (c ≤ 70) := by simp [isHx, hd, h2, h4]
        rw [e]
        clear e
        go_enter Try.func27, Try.ntmps27
        go_wp2_with (go_at_call 17; refine (dg17 _ _).mono ?_; rintro e w' ⟨rfl, hw'⟩; rw [hw']; clear hw' w')
        go_ret
        exact ⟨rfl, rfl⟩
      · have h4' : decide (65 ≤ c) = false := by simpa using h4
        have e : isHx c = false := by simp [isHx, hd, h2, h4]
        rw [e]
        go_enter Try.func27, Try.ntmps27
        go_wp2_with (go_at_call 17; refine (dg17 _ _).mono ?_; rintro e w' ⟨rfl, hw'⟩; rw [hw']; clear hw' w')
        go_ret
        exact ⟨rfl, rfl⟩
  · have e : isHx c = true := by simp [isHx, hd]
    rw [e]
    go_enter Try.func27, Try.ntmps27
    go_wp2_with (go_at_call 17; refine (dg17 _ _).mono ?_; rintro e w' ⟨rfl, hw'⟩; rw [hw']; clear hw' w')
    go_ret
    exact ⟨rfl, rfl⟩

theorem skip_cons_sp {c : Int} {l : List Int} (h : isSp c = true) : skip (c :: l) = skip l := by simp [skip, h]
theorem skip_cons_no {c : Int} {l : List Int} (h : isSp c = false) : skip (c :: l) = c :: l := by simp [skip, h]

set_option maxHeartbeats 400000 in
theorem skip9 (g n cp i : Nat) (bs : List Int) (w : World) (hc : Cel w g bs) (hl : bs.length = n) (hn : n ≤ 1048576) (hi : i ≤ n) :
    Calls Try.prog 9 #[.slice (some ⟨g, 0, none⟩) n cp, .int .i64 i] w fun e w' => e = .returned (.int .i64 ((n - (skip (bs.drop i)).length : Nat) : Int)) ∧ w' = w := by
  have HL : Hid (bs.length = n) := hl
  clear hl
  go_enter Try.func9, Try.ntmps9
  go_wp2
  go_loop [1] (fun v => ∃ k : Nat, v = .int .i64 k ∧ k ≤ n ∧ skip (bs.drop k) = skip (bs.drop i)) (fun v => n - (intOf v).toNat)
  case atStart => exact ⟨i, rfl, hi, rfl⟩
  case round =>
    obtain ⟨k, rfl, hk, he⟩ := hrel
    have HE : Hid _ := he
    clear he
    cases hd : bs.drop k with
    | nil =>
      have hkn : n ≤ k := by have := drop_nil hd; rw [HL.out] at this; exact this
      have hlt : ¬ k < n := by omega
      have hr : (n - (skip (bs.drop i)).length : Nat) = k := by rw [← HE.out, hd]; simp [skip]; omega
      have HR : Hid _ := hr
      clear hr hd
      go_wp2
      go_ret
      exact ⟨by rw [HR.out]; rfl, rfl⟩
    | cons c r =>
      obtain ⟨-, hlt, hdr⟩ := drop_at hd
      rw [HL.out] at hlt
      have cK := hc.rd hd
      cases hs : isSp c
      · have hr : (n - (skip (bs.drop i)).length : Nat) = k := by
          rw [← HE.out, hd, skip_cons_no hs, ← hd]; simp; have := HL.out; omega
        have HR : Hid _ := hr
        clear hr hd hdr
        go_wp2_with (go_at_call 19; refine (sp19 _ _).mono ?_; rintro e w' ⟨rfl, hw'⟩; rw [hw']; clear hw' w')
        go_ret
        exact ⟨by rw [HR.out]; rfl, rfl⟩
      · have hr : skip (bs.drop (k + 1)) = skip (bs.drop i) := by rw [← HE.out, hd, skip_cons_sp hs, hdr]
        have HR : Hid _ := hr
        clear hr hd hdr
        go_wp2_with (go_at_call 19; refine (sp19 _ _).mono ?_; rintro e w' ⟨rfl, hw'⟩; rw [hw']; clear hw' w')
        go_round
        case rel => exact ⟨k + 1, by go_num, by omega, HR.out⟩
        case measure => simp [intOf]; omega
end Go.Proofs.Qxb6612399a
