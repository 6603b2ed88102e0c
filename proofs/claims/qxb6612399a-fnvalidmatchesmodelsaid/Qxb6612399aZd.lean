/- zzNumber, walked. -/
import Derived.Test.Qxb6612399aZc
namespace Go.Proofs.Qxb6612399a
open Go.RowKit
set_option linter.unusedVariables false

theorem num_minus (l : List Int) : num (45 :: l) = num1 l := by simp [num]
theorem num_other {c : Int} (l : List Int) (h : ¬ c = 45) : num (c :: l) = num1 (c :: l) := by simp [num, h]
theorem num1_zero (l : List Int) : num1 (48 :: l) = frac l := by simp [num1]
theorem num1_dig {c : Int} (l : List Int) (h : 49 ≤ c ∧ c ≤ 57) : num1 (c :: l) = frac (digits (c :: l)) := by
  have h0 : ¬ c = 48 := by omega
  have hd : isDg c = true := by simp [isDg]; omega
  simp [num1, h0, h, digits, hd]
theorem num1_bad {c : Int} (l : List Int) (h0 : ¬ c = 48) (h : ¬ (49 ≤ c ∧ c ≤ 57)) : num1 (c :: l) = none := by simp only [num1, h0, h, if_false]
theorem frac_no {l : List Int} (h : ∀ r, ¬ l = 46 :: r) : frac l = expo l := by
  cases l with
  | nil => rfl
  | cons c r =>
    have : ¬ c = 46 := by rintro rfl; exact h r rfl
    simp [frac, this]
theorem expS_bad {d : Int} (r : List Int) (h : isDg d = false) : expS (d :: r) = none := by simp [expS, h]
theorem expS_ok {d : Int} (r : List Int) (h : isDg d = true) : expS (d :: r) = some (digits (d :: r)) := by simp [expS, h, digits]
def eAt (l : List Int) : Bool := match l with | [] => false | c :: _ => c == 101 || c == 69
def sAt (l : List Int) : Bool := match l with | [] => false | c :: _ => c == 43 || c == 45
theorem expo_no {l : List Int} (h : eAt l = false) : expo l = some l := by
  cases l with
  | nil => rfl
  | cons c r =>
    have : ¬ (c = 101 ∨ c = 69) := by simpa [eAt] using h
    simp only [expo]; rw [if_neg this]
theorem expo_yes {bs : List Int} {k : Nat} (h : eAt (bs.drop k) = true) :
    k < bs.length ∧ expo (bs.drop k) = if sAt (bs.drop (k + 1)) then expS (bs.drop (k + 1 + 1)) else expS (bs.drop (k + 1)) := by
  cases hd : bs.drop k with
  | nil => rw [hd] at h; simp [eAt] at h
  | cons c r =>
    obtain ⟨-, hlt, hdr⟩ := drop_at hd
    rw [hd] at h
    have hc : c = 101 ∨ c = 69 := by simpa [eAt] using h
    refine ⟨hlt, ?_⟩
    rw [hdr]
    simp only [expo]; rw [if_pos hc]
    cases r with
    | nil => simp [sAt, expS]
    | cons d r' =>
      obtain ⟨-, -, hdr'⟩ := drop_at hdr
      rw [hdr']
      simp [sAt]
theorem sAt_yes {bs : List Int} {k : Nat} (h : sAt (bs.drop k) = true) : k < bs.length ∧ True := by
  cases hd : bs.drop k with
  | nil => rw [hd] at h; simp [sAt] at h
  | cons c r => exact ⟨(drop_at hd).2.1, trivial⟩
theorem frac_nil : frac [46] = none := by simp [frac]
theorem frac_bad {d : Int} (r : List Int) (h : isDg d = false) : frac (46 :: d :: r) = none := by simp [frac, h]
theorem frac_ok {d : Int} (r : List Int) (h : isDg d = true) : frac (46 :: d :: r) = expo (digits (d :: r)) := by simp [frac, h, digits]

set_option maxRecDepth 100000 in
set_option maxHeartbeats 4000000 in
theorem num18 (g n cp i : Nat) (bs : List Int) (w : World) (hc : Cel w g bs) (hl : bs.length = n) (hn : n ≤ 1048576) (hi : i < n) :
    Calls Try.prog 18 #[.slice (some ⟨g, 0, none⟩) n cp, .int .i64 i] w fun e w' => e = .returned (.int .i64 (idx n (num (bs.drop i)))) ∧ w' = w := by
  have hnot : ∀ (x : Bool) (w : World), (Op.unary .not (.bool x)).run Try.prog w = .ok (.bool (!x)) w := fun _ _ => rfl
  have HL : Hid (bs.length = n) := hl
  clear hl
  obtain ⟨c0, r0, hd0⟩ : ∃ c r, bs.drop i = c :: r := ⟨_, _, List.drop_eq_getElem_cons (by rw [HL.out]; exact hi)⟩
  have cK0 := hc.rd hd0
  obtain ⟨-, -, hdr0⟩ := drop_at hd0
  go_enter Try.func18, Try.ntmps18
  go_upto_if 9 with fail
  go_cut [1] from 5 to 151 (fun v wq => wq = w ∧ ∃ k : Nat, v = .int .i64 k ∧ k ≤ n ∧ num1 (bs.drop k) = num (bs.drop i))
  case first =>
    as_aux_lemma =>
      by_cases hm : c0 = 45
      · subst hm
        have HR : Hid (num1 (bs.drop (i + 1)) = num (bs.drop i)) := by rw [hd0, num_minus, hdr0]; exact rfl
        clear hd0 hdr0
        go_wp2
        go_meet
        case rel => exact ⟨rfl, i + 1, by go_num, by omega, HR.out⟩
      · have hm' : (c0 == 45) = false := by simpa using hm
        have HR : Hid (num1 (bs.drop i) = num (bs.drop i)) := by rw [hd0, num_other _ hm]; exact rfl
        clear hd0 hdr0
        go_wp2
        go_meet
        case rel => exact ⟨rfl, i, rfl, by omega, HR.out⟩
  case rest =>
    clear cK0 hd0 hdr0
    obtain ⟨hwq, k1, rfl, hk1, he1⟩ := hcut
    have hw2 := hwq.symm
    clear hwq
    subst hw2
    have HE1 : Hid _ := he1
    clear he1
    cases hd : bs.drop k1 with
    | nil =>
      have hkn : n ≤ k1 := by have := drop_nil hd; rw [HL.out] at this; exact this
      have hlt : ¬ k1 < n := by omega
      have HR : Hid (idx n (num (bs.drop i)) = -1) := by rw [← HE1.out, hd]; exact rfl
      clear hd
      go_wp2
      go_ret
      exact ⟨by rw [HR.out]; rfl, rfl⟩
    | cons c r =>
      obtain ⟨-, hlt, hdr⟩ := drop_at hd
      rw [HL.out] at hlt
      have cK := hc.rd hd
      have hge : decide (n ≤ k1) = false := by simp; omega
      have hge' : decide ((n : Int) ≤ (k1 : Int)) = false := by simp; omega
      go_upto_if 20 with fail
      go_cut [1] from 5 to 151 (fun v wq => wq = w ∧ ∃ k : Nat, v = .int .i64 k ∧ k ≤ n ∧ frac (bs.drop k) = num (bs.drop i))
      case first =>
        as_aux_lemma =>
          by_cases hz : c = 48
          · subst hz
            have HR : Hid (frac (bs.drop (k1 + 1)) = num (bs.drop i)) := by rw [← HE1.out, hd, num1_zero, hdr]; exact rfl
            clear hd hdr
            go_wp2
            go_meet
            case rel => exact ⟨rfl, k1 + 1, by go_num, by omega, HR.out⟩
          · have hz' : (c == 48) = false := by simpa using hz
            by_cases h49 : 49 ≤ c
            · have h49' : decide (49 ≤ c) = true := by simpa using h49
              by_cases h57 : c ≤ 57
              · have h57' : decide (c ≤ 57) = true := by simpa using h57
                have HR : Hid (num (bs.drop i) = frac (digits (bs.drop k1))) := by rw [← HE1.out, hd, num1_dig _ ⟨h49, h57⟩]; exact rfl
                clear hd hdr
                go_wp2
                try rw [hz']
                go_loop [1] (fun v => ∃ k : Nat, v = .int .i64 k ∧ k ≤ n ∧ digits (bs.drop k) = digits (bs.drop k1)) (fun v => n - (intOf v).toNat)
                case atStart => exact ⟨k1, by go_num, by omega, rfl⟩
                case round =>
                  obtain ⟨k, rfl, hk, he⟩ := hrel
                  have HE : Hid _ := he
                  clear he
                  cases hd : bs.drop k with
                  | nil =>
                    have hkn : n ≤ k := by have := drop_nil hd; rw [HL.out] at this; exact this
                    have hlt : ¬ k < n := by omega
                    have HD : Hid (digits (bs.drop k1) = bs.drop k) := by rw [← HE.out, hd]; exact rfl
                    clear hd
                    go_wp2
                    go_meet
                    case rel => exact ⟨rfl, k, rfl, hk, by rw [HR.out, HD.out]⟩
                  | cons c r =>
                    obtain ⟨-, hlt, hdr⟩ := drop_at hd
                    rw [HL.out] at hlt
                    have cK := hc.rd hd
                    cases hs : isDg c
                    · have hD : digits (bs.drop k1) = bs.drop k := by rw [← HE.out, hd]; simp [digits, hs]
                      have HD : Hid _ := hD
                      clear hD
                      clear hd hdr
                      go_wp2_with (go_at_call 17; refine (dg17 _ _).mono ?_; rintro e w' ⟨rfl, hw'⟩; rw [hw']; clear hw' w')
                      go_meet
                      case rel => exact ⟨rfl, k, rfl, hk, by rw [HR.out, HD.out]⟩
                    · have hR : digits (bs.drop (k + 1)) = digits (bs.drop k1) := by rw [← HE.out, hd, hdr]; simp [digits, hs]
                      have HR : Hid _ := hR
                      clear hR
                      clear hd hdr
                      go_wp2_with (go_at_call 17; refine (dg17 _ _).mono ?_; rintro e w' ⟨rfl, hw'⟩; rw [hw']; clear hw' w')
                      go_round
                      case rel => exact ⟨k + 1, by go_num, by omega, HR.out⟩
                      case measure => simp [intOf]; omega
              · have h57' : decide (c ≤ 57) = false := by simpa using h57
                have HR : Hid (idx n (num (bs.drop i)) = -1) := by rw [← HE1.out, hd, num1_bad _ hz (by omega)]; exact rfl
                clear hd hdr
                go_wp2
                go_ret
                exact ⟨by rw [HR.out]; rfl, rfl⟩
            · have h49' : decide (49 ≤ c) = false := by simpa using h49
              have HR : Hid (idx n (num (bs.drop i)) = -1) := by rw [← HE1.out, hd, num1_bad _ hz (by omega)]; exact rfl
              clear hd hdr
              go_wp2
              go_ret
              exact ⟨by rw [HR.out]; rfl, rfl⟩
      case rest =>
        clear hd hdr cK HE1
        obtain ⟨hwq, k2, rfl, hk2, he2⟩ := hcut
        have hw2 := hwq.symm
        clear hwq
        subst hw2
        have HE2 : Hid _ := he2
        clear he2
        go_step
        go_step
        go_cut [1] from 5 to 151 (fun v wq => wq = w ∧ ∃ k : Nat, v = .int .i64 k ∧ k ≤ n ∧ expo (bs.drop k) = num (bs.drop i))
        case first =>
          as_aux_lemma =>
            cases hd1 : bs.drop k2 with
            | nil =>
              have hkn : n ≤ k2 := by have := drop_nil hd1; rw [HL.out] at this; exact this
              have hlt1 : ¬ k2 < n := by omega
              have HR : Hid (expo (bs.drop k2) = num (bs.drop i)) := by rw [← HE2.out, hd1]; exact rfl
              clear hd1
              go_wp2
              go_meet
              case rel => exact ⟨rfl, k2, rfl, hk2, HR.out⟩
            | cons c1 r1 =>
              obtain ⟨-, hlt1, hdr1⟩ := drop_at hd1
              rw [HL.out] at hlt1
              have cK1 := hc.rd hd1
              by_cases hm : c1 = 46
              · subst hm
                cases hd2 : bs.drop (k2 + 1) with
                | nil =>
                  have hkn : n ≤ k2 + 1 := by have := drop_nil hd2; rw [HL.out] at this; exact this
                  have hge2 : decide (n ≤ k2 + 1) = true := by simp; omega
                  have hge2' : decide ((n : Int) ≤ ((k2 + 1 : Nat) : Int)) = true := by simp; omega
                  have HR : Hid (idx n (num (bs.drop i)) = -1) := by rw [← HE2.out, hd1, ← hdr1, hd2, frac_nil]; exact rfl
                  clear hd1 hd2 hdr1
                  go_wp2
                  go_ret
                  exact ⟨by rw [HR.out]; rfl, rfl⟩
                | cons d r2 =>
                  obtain ⟨-, hlt2, hdr2⟩ := drop_at hd2
                  rw [HL.out] at hlt2
                  have cK2 := hc.rd hd2
                  have hge2 : decide (n ≤ k2 + 1) = false := by simp; omega
                  have hge2' : decide ((n : Int) ≤ ((k2 + 1 : Nat) : Int)) = false := by simp; omega
                  cases hs : isDg d
                  · have HR : Hid (idx n (num (bs.drop i)) = -1) := by rw [← HE2.out, hd1, ← hdr1, hd2, frac_bad _ hs]; exact rfl
                    clear hd1 hd2 hdr1
                    go_wp2_with (go_at_call 17; refine (dg17 _ _).mono ?_; rintro e w' ⟨rfl, hw'⟩; rw [hw']; clear hw' w')
                    go_ret
                    exact ⟨by rw [HR.out]; rfl, rfl⟩
                  · have HR : Hid (num (bs.drop i) = expo (digits (bs.drop (k2 + 1)))) := by rw [← HE2.out, hd1, ← hdr1, hd2, frac_ok _ hs]; exact rfl
                    clear hd1 hd2 hdr1
                    clear hdr2
                    go_wp2_with (go_at_call 17; refine (dg17 _ _).mono ?_; rintro e w' ⟨rfl, hw'⟩; rw [hw']; clear hw' w')
                    go_loop [1] (fun v => ∃ k : Nat, v = .int .i64 k ∧ k ≤ n ∧ digits (bs.drop k) = digits (bs.drop (k2 + 1))) (fun v => n - (intOf v).toNat)
                    case atStart => exact ⟨(k2 + 1), by go_num, by omega, rfl⟩
                    case round =>
                      obtain ⟨k, rfl, hk, he⟩ := hrel
                      have HE : Hid _ := he
                      clear he
                      cases hd : bs.drop k with
                      | nil =>
                        have hkn : n ≤ k := by have := drop_nil hd; rw [HL.out] at this; exact this
                        have hlt : ¬ k < n := by omega
                        have HD : Hid (digits (bs.drop (k2 + 1)) = bs.drop k) := by rw [← HE.out, hd]; exact rfl
                        clear hd
                        go_wp2
                        go_meet
                        case rel => exact ⟨rfl, k, rfl, hk, by rw [HR.out, HD.out]⟩
                      | cons c r =>
                        obtain ⟨-, hlt, hdr⟩ := drop_at hd
                        rw [HL.out] at hlt
                        have cK := hc.rd hd
                        cases hs : isDg c
                        · have hD : digits (bs.drop (k2 + 1)) = bs.drop k := by rw [← HE.out, hd]; simp [digits, hs]
                          have HD : Hid _ := hD
                          clear hD
                          clear hd hdr
                          go_wp2_with (go_at_call 17; refine (dg17 _ _).mono ?_; rintro e w' ⟨rfl, hw'⟩; rw [hw']; clear hw' w')
                          go_meet
                          case rel => exact ⟨rfl, k, rfl, hk, by rw [HR.out, HD.out]⟩
                        · have hR : digits (bs.drop (k + 1)) = digits (bs.drop (k2 + 1)) := by rw [← HE.out, hd, hdr]; simp [digits, hs]
                          have HR : Hid _ := hR
                          clear hR
                          clear hd hdr
                          go_wp2_with (go_at_call 17; refine (dg17 _ _).mono ?_; rintro e w' ⟨rfl, hw'⟩; rw [hw']; clear hw' w')
                          go_round
                          case rel => exact ⟨k + 1, by go_num, by omega, HR.out⟩
                          case measure => simp [intOf]; omega
              · have hm' : (c1 == 46) = false := by simpa using hm
                have HR : Hid (expo (bs.drop k2) = num (bs.drop i)) := by
                  rw [← HE2.out, hd1, frac_no (by intro r h; exact hm (List.cons.inj h).1)]; exact rfl
                clear hd1 hdr1
                go_wp2
                go_meet
                case rel => exact ⟨rfl, k2, rfl, hk2, HR.out⟩
        case rest =>
          clear hge hge'
          obtain ⟨hwq, k3, rfl, hk3, he3⟩ := hcut
          have hw2 := hwq.symm
          clear hwq
          subst hw2
          have HE3 : Hid _ := he3
          clear he3
          go_upto_region 17 with fail
          go_cut [1, 103] from 5 to 151 (fun v b wq => wq = w ∧ v = .int .i64 k3 ∧ b = .bool (eAt (bs.drop k3)))
          case first =>
            as_aux_lemma =>
              cases hd1 : bs.drop k3 with
              | nil =>
                have hkn : n ≤ k3 := by have := drop_nil hd1; rw [HL.out] at this; exact this
                have hlt1 : ¬ k3 < n := by omega
                have HB : Hid (eAt (bs.drop k3) = false) := by rw [hd1]; exact rfl
                clear hd1
                go_wp2
                go_meet
                case rel => exact ⟨rfl, rfl, by rw [HB.out]⟩
              | cons c1 r1 =>
                obtain ⟨-, hlt1, hdr1⟩ := drop_at hd1
                rw [HL.out] at hlt1
                have cK1 := hc.rd hd1
                by_cases h1 : c1 = 101
                · subst h1
                  have HB : Hid (eAt (bs.drop k3) = true) := by rw [hd1]; exact rfl
                  clear hd1 hdr1
                  go_wp2
                  go_meet
                  case rel => exact ⟨rfl, rfl, by rw [HB.out]⟩
                · have h1' : (c1 == 101) = false := by simpa using h1
                  by_cases h2 : c1 = 69
                  · subst h2
                    have HB : Hid (eAt (bs.drop k3) = true) := by rw [hd1]; exact rfl
                    clear hd1 hdr1
                    go_wp2
                    go_meet
                    case rel => exact ⟨rfl, rfl, by rw [HB.out]⟩
                  · have HB : Hid (eAt (bs.drop k3) = false) := by show eAt _ = _; rw [hd1]; simp [eAt]; exact ⟨h1, h2⟩
                    clear hd1 hdr1
                    have h2' : (c1 == 69) = false := by simpa using h2
                    go_wp2
                    go_meet
                    case rel => exact ⟨rfl, rfl, by rw [HB.out]⟩
          case rest =>
            obtain ⟨hwq, rfl, rfl⟩ := hcut
            have hw2 := hwq.symm
            clear hwq
            subst hw2
            cases hE : eAt (bs.drop k3)
            · have HR : Hid (idx n (num (bs.drop i)) = (k3 : Int)) := by
                rw [← HE3.out, expo_no hE, idx_some n k3]
                exact rfl
                rw [List.length_drop, HL.out]; omega
              go_wp2
              go_ret
              exact ⟨by rw [HR.out]; rfl, rfl⟩
            · obtain ⟨hlt3, hX⟩ := expo_yes hE
              rw [HL.out] at hlt3
              have HX : Hid _ := hX
              clear hX
              go_upto_region 19 with fail
              go_cut [1, 123] from 5 to 151 (fun v b wq => wq = w ∧ v = .int .i64 (k3 + 1 : Nat) ∧ b = .bool (sAt (bs.drop (k3 + 1))))
              case first =>
                as_aux_lemma =>
                  cases hd1 : bs.drop (k3 + 1) with
                  | nil =>
                    have hkn : n ≤ k3 + 1 := by have := drop_nil hd1; rw [HL.out] at this; exact this
                    have hlt1 : ¬ k3 + 1 < n := by omega
                    have hl5 : decide (k3 + 1 < n) = false := by simp; omega
                    have hl5' : decide (((k3 + 1 : Nat) : Int) < (n : Int)) = false := by simp; omega
                    have HB : Hid (sAt (bs.drop (k3 + 1)) = false) := by rw [hd1]; exact rfl
                    clear hd1
                    go_wp2
                    go_meet
                    case rel => exact ⟨rfl, rfl, by rw [HB.out]⟩
                  | cons c1 r1 =>
                    obtain ⟨-, hlt1, hdr1⟩ := drop_at hd1
                    rw [HL.out] at hlt1
                    have cK1 := hc.rd hd1
                    have hl5 : decide (k3 + 1 < n) = true := by simp; omega
                    have hl5' : decide (((k3 + 1 : Nat) : Int) < (n : Int)) = true := by simp; omega
                    by_cases h1 : c1 = 43
                    · subst h1
                      have HB : Hid (sAt (bs.drop (k3 + 1)) = true) := by rw [hd1]; exact rfl
                      clear hd1 hdr1
                      go_wp2
                      go_meet
                      case rel => exact ⟨rfl, rfl, by rw [HB.out]⟩
                    · have h1' : (c1 == 43) = false := by simpa using h1
                      by_cases h2 : c1 = 45
                      · subst h2
                        have HB : Hid (sAt (bs.drop (k3 + 1)) = true) := by rw [hd1]; exact rfl
                        clear hd1 hdr1
                        go_wp2
                        go_meet
                        case rel => exact ⟨rfl, rfl, by rw [HB.out]⟩
                      · have HB : Hid (sAt (bs.drop (k3 + 1)) = false) := by show sAt _ = _; rw [hd1]; simp [sAt]; exact ⟨h1, h2⟩
                        clear hd1 hdr1
                        have h2' : (c1 == 45) = false := by simpa using h2
                        go_wp2
                        go_meet
                        case rel => exact ⟨rfl, rfl, by rw [HB.out]⟩
              case rest =>
                obtain ⟨hwq, rfl, rfl⟩ := hcut
                have hw2 := hwq.symm
                clear hwq
                subst hw2
                go_upto_if 123 with fail
                go_cut [1] from 5 to 151 (fun v wq => wq = w ∧ ∃ k : Nat, v = .int .i64 k ∧ k ≤ n ∧ expS (bs.drop k) = num (bs.drop i))
                case first =>
                  as_aux_lemma =>
                    cases hS : sAt (bs.drop (k3 + 1))
                    · have HR : Hid (expS (bs.drop (k3 + 1)) = num (bs.drop i)) := by rw [← HE3.out, HX.out, hS]; exact rfl
                      go_wp2
                      go_meet
                      case rel => exact ⟨rfl, k3 + 1, rfl, by omega, HR.out⟩
                    · obtain ⟨hlt4, -⟩ := sAt_yes hS
                      rw [HL.out] at hlt4
                      have HR : Hid (expS (bs.drop (k3 + 1 + 1)) = num (bs.drop i)) := by rw [← HE3.out, HX.out, hS]; exact rfl
                      go_wp2
                      go_meet
                      case rel => exact ⟨rfl, k3 + 1 + 1, by go_num, by omega, HR.out⟩
                case rest =>
                  obtain ⟨hwq, k5, rfl, hk5, he5⟩ := hcut
                  have hw2 := hwq.symm
                  clear hwq
                  subst hw2
                  have HY : Hid _ := he5
                  clear he5
                  cases hd2 : bs.drop (k5) with
                  | nil =>
                    have hkn : n ≤ k5 := by have := drop_nil hd2; rw [HL.out] at this; exact this
                    have hge2 : decide (n ≤ k5) = true := by simp; omega
                    have hge2' : decide ((n : Int) ≤ ((k5 : Nat) : Int)) = true := by simp; omega
                    have HR : Hid (idx n (num (bs.drop i)) = -1) := by rw [← HY.out, hd2]; exact rfl
                    clear hd2
                    go_wp2
                    go_ret
                    exact ⟨by rw [HR.out]; rfl, rfl⟩
                  | cons d r2 =>
                    obtain ⟨-, hlt2, hdr2⟩ := drop_at hd2
                    rw [HL.out] at hlt2
                    have cK2 := hc.rd hd2
                    have hge2 : decide (n ≤ k5) = false := by simp; omega
                    have hge2' : decide ((n : Int) ≤ ((k5 : Nat) : Int)) = false := by simp; omega
                    cases hs : isDg d
                    · have HR : Hid (idx n (num (bs.drop i)) = -1) := by rw [← HY.out, hd2, expS_bad _ hs]; exact rfl
                      clear hd2
                      go_wp2_with (go_at_call 17; refine (dg17 _ _).mono ?_; rintro e w' ⟨rfl, hw'⟩; rw [hw']; clear hw' w')
                      go_ret
                      exact ⟨by rw [HR.out]; rfl, rfl⟩
                    · have HR : Hid (num (bs.drop i) = some (digits (bs.drop (k5)))) := by rw [← HY.out, hd2, expS_ok _ hs]; exact rfl
                      clear hd2
                      clear hdr2
                      go_wp2_with (go_at_call 17; refine (dg17 _ _).mono ?_; rintro e w' ⟨rfl, hw'⟩; rw [hw']; clear hw' w')
                      go_loop [1] (fun v => ∃ k : Nat, v = .int .i64 k ∧ k ≤ n ∧ digits (bs.drop k) = digits (bs.drop (k5))) (fun v => n - (intOf v).toNat)
                      case atStart => exact ⟨(k5), by go_num, by omega, rfl⟩
                      case round =>
                        obtain ⟨k, rfl, hk, he⟩ := hrel
                        have HE : Hid _ := he
                        clear he
                        cases hd : bs.drop k with
                        | nil =>
                          have hkn : n ≤ k := by have := drop_nil hd; rw [HL.out] at this; exact this
                          have hlt : ¬ k < n := by omega
                          have HD : Hid (digits (bs.drop (k5)) = bs.drop k) := by rw [← HE.out, hd]; exact rfl
                          clear hd
                          go_wp2
                          have HQ : Hid (idx n (num (bs.drop i)) = (k : Int)) := by
                            rw [HR.out, HD.out, idx_some n k]
                            exact rfl
                            rw [List.length_drop, HL.out]; omega
                          go_wp2
                          go_ret
                          exact ⟨by rw [HQ.out]; rfl, rfl⟩
                        | cons c r =>
                          obtain ⟨-, hlt, hdr⟩ := drop_at hd
                          rw [HL.out] at hlt
                          have cK := hc.rd hd
                          cases hs : isDg c
                          · have hD : digits (bs.drop (k5)) = bs.drop k := by rw [← HE.out, hd]; simp [digits, hs]
                            have HD : Hid _ := hD
                            clear hD
                            clear hd hdr
                            go_wp2_with (go_at_call 17; refine (dg17 _ _).mono ?_; rintro e w' ⟨rfl, hw'⟩; rw [hw']; clear hw' w')
                            have HQ : Hid (idx n (num (bs.drop i)) = (k : Int)) := by
                              rw [HR.out, HD.out, idx_some n k]
                              exact rfl
                              rw [List.length_drop, HL.out]; omega
                            go_wp2
                            go_ret
                            exact ⟨by rw [HQ.out]; rfl, rfl⟩
                          · have hR : digits (bs.drop (k + 1)) = digits (bs.drop (k5)) := by rw [← HE.out, hd, hdr]; simp [digits, hs]
                            have HR : Hid _ := hR
                            clear hR
                            clear hd hdr
                            go_wp2_with (go_at_call 17; refine (dg17 _ _).mono ?_; rintro e w' ⟨rfl, hw'⟩; rw [hw']; clear hw' w')
                            go_round
                            case rel => exact ⟨k + 1, by go_num, by omega, HR.out⟩
                            case measure => simp [intOf]; omega

end Go.Proofs.Qxb6612399a
