/- zzValue, zzValidJSON, walked. -/
import Derived.Test.Qxb6612399aZf
namespace Go.Proofs.Qxb6612399a
open Go.RowKit
set_option linter.unusedVariables false

theorem val_nil : ∀ m, val m [] = none
  | 0 => rfl
  | _ + 1 => rfl
theorem val_other : ∀ (m : Nat) {c : Int} (r : List Int), ¬ c = 91 → ¬ c = 123 → val m (c :: r) = scalar (c :: r)
  | 0, _, _, _, _ => rfl
  | _ + 1, _, _, h, k => by simp [val, h, k]
theorem scalar_num {c : Int} (r : List Int) (h : c = 45 ∨ isDg c = true) : scalar (c :: r) = num (c :: r) := by
  have : ¬ c = 34 ∧ ¬ c = 116 ∧ ¬ c = 102 ∧ ¬ c = 110 := by
    rcases h with rfl | h
    · decide
    · simp [isDg] at h; omega
  simp only [scalar]
  rw [if_neg this.1, if_neg this.2.1, if_neg this.2.2.1, if_neg this.2.2.2, if_pos h]
theorem scalar_bad {c : Int} (r : List Int) (h1 : ¬ c = 34) (h2 : ¬ c = 116) (h3 : ¬ c = 102) (h4 : ¬ c = 110) (h5 : ¬ (c = 45 ∨ isDg c = true)) : scalar (c :: r) = none := by
  simp only [scalar]
  rw [if_neg h1, if_neg h2, if_neg h3, if_neg h4, if_neg h5]
theorem word_head {a : Int} (ws l : List Int) : word (a :: ws) (a :: l) = word ws l := by simp [word]

set_option maxRecDepth 100000 in
set_option maxHeartbeats 4000000 in
theorem value8 (g n cp : Nat) (bs : List Int) (hl : bs.length = n) (hn : n ≤ 1048576) : ∀ m, ValC g n cp bs m := by
  have HL : Hid (bs.length = n) := hl
  clear hl
  intro m
  induction m with
  | zero => ?_
  | succ m ih => ?_
  all_goals intro d i hdm hi w hc
  · generalize hX : idx n (val (0) (bs.drop i)) = X
    have hdge : decide ((10000 : Int) ≤ (d : Int)) = true := by simp; omega
    cases hd0 : bs.drop i with
    | nil =>
      have hkn : n ≤ i := by have := drop_nil hd0; rw [HL.out] at this; exact this
      have hge : decide (n ≤ i) = true := by simp; omega
      have hge' : decide ((n : Int) ≤ (i : Int)) = true := by simp; omega
      have HQ : Hid (X = -1) := by rw [← hX, hd0, val_nil]; exact rfl
      clear hd0 hX
      go_enter Try.func8, Try.ntmps8
      go_wp2_with fail
      go_ret
      exact ⟨by rw [HQ.out]; rfl, 0, rfl⟩
    | cons c r =>
      obtain ⟨-, hlt, hdr0⟩ := drop_at hd0
      rw [HL.out] at hlt
      have cK := hc.rd hd0
      have hge : decide (n ≤ i) = false := by simp; omega
      have hge' : decide ((n : Int) ≤ (i : Int)) = false := by simp; omega
      by_cases h91 : c = 91
      · subst h91
        have HQ : Hid (X = -1) := by rw [← hX, hd0]; exact rfl
        clear hd0 hdr0 hX
        go_enter Try.func8, Try.ntmps8
        go_wp2_with fail
        go_ret
        exact ⟨by rw [HQ.out]; rfl, 0, rfl⟩
      · have h91' : (c == 91) = false := by simpa using h91
        by_cases h123 : c = 123
        · subst h123
          have HQ : Hid (X = -1) := by rw [← hX, hd0]; exact rfl
          clear hd0 hdr0 hX
          go_enter Try.func8, Try.ntmps8
          go_wp2_with fail
          go_ret
          exact ⟨by rw [HQ.out]; rfl, 0, rfl⟩
        · have h123' : (c == 123) = false := by simpa using h123
          by_cases h34 : c = 34
          · subst h34
            have HQ : Hid (X = idx n (str (bs.drop (i + 1)))) := by rw [← hX, hd0, val_other _ _ (by decide) (by decide)]; rw [hdr0]; exact rfl
            clear hd0 hdr0 hX
            go_enter Try.func8, Try.ntmps8
            go_wp2_with fail
            go_at_call 15
            refine (str15 g n cp i bs _ hc HL.out hn hlt).mono ?_
            rintro e w' ⟨rfl, hw'⟩
            rw [hw']
            clear hw' w'
            go_wp2_with fail
            go_ret
            exact ⟨by rw [HQ.out]; rfl, 0, rfl⟩
          · have h34' : (c == 34) = false := by simpa using h34
            by_cases h116 : c = 116
            · subst h116
              have HQ : Hid (X = idx n (word [116, 114, 117, 101] (bs.drop i))) := by rw [← hX, hd0, val_other _ _ (by decide) (by decide), word_head]; exact rfl
              clear hd0 hdr0 hX
              go_enter Try.func8, Try.ntmps8
              go_wp2_with fail
              go_at_call 16
              refine (word16t g n cp i bs _ hc HL.out hn hi).mono ?_
              rintro e w' ⟨rfl, q2, hw'⟩
              rw [hw']
              clear hw' w'
              go_wp2_with fail
              go_ret
              exact ⟨by rw [HQ.out]; rfl, _, rfl⟩
            · have h116' : (c == 116) = false := by simpa using h116
              by_cases h102 : c = 102
              · subst h102
                have HQ : Hid (X = idx n (word [102, 97, 108, 115, 101] (bs.drop i))) := by rw [← hX, hd0, val_other _ _ (by decide) (by decide), word_head]; exact rfl
                clear hd0 hdr0 hX
                go_enter Try.func8, Try.ntmps8
                go_wp2_with fail
                go_at_call 16
                refine (word16f g n cp i bs _ hc HL.out hn hi).mono ?_
                rintro e w' ⟨rfl, q2, hw'⟩
                rw [hw']
                clear hw' w'
                go_wp2_with fail
                go_ret
                exact ⟨by rw [HQ.out]; rfl, _, rfl⟩
              · have h102' : (c == 102) = false := by simpa using h102
                by_cases h110 : c = 110
                · subst h110
                  have HQ : Hid (X = idx n (word [110, 117, 108, 108] (bs.drop i))) := by rw [← hX, hd0, val_other _ _ (by decide) (by decide), word_head]; exact rfl
                  clear hd0 hdr0 hX
                  go_enter Try.func8, Try.ntmps8
                  go_wp2_with fail
                  go_at_call 16
                  refine (word16n g n cp i bs _ hc HL.out hn hi).mono ?_
                  rintro e w' ⟨rfl, q2, hw'⟩
                  rw [hw']
                  clear hw' w'
                  go_wp2_with fail
                  go_ret
                  exact ⟨by rw [HQ.out]; rfl, _, rfl⟩
                · have h110' : (c == 110) = false := by simpa using h110
                  by_cases h45 : c = 45
                  · subst h45
                    have HQ : Hid (X = idx n (num (bs.drop i))) := by rw [← hX, hd0, val_other _ _ (by decide) (by decide), scalar_num _ (.inl rfl)]; exact rfl
                    clear hd0 hdr0 hX
                    go_enter Try.func8, Try.ntmps8
                    go_wp2_with fail
                    go_at_call 18
                    refine (num18 g n cp i bs _ hc HL.out hn hlt).mono ?_
                    rintro e w' ⟨rfl, hw'⟩
                    rw [hw']
                    clear hw' w'
                    go_wp2_with fail
                    go_ret
                    exact ⟨by rw [HQ.out]; rfl, 0, rfl⟩
                  · have h45' : (c == 45) = false := by simpa using h45
                    cases hdg : isDg c
                    · have HQ : Hid (X = -1) := by rw [← hX, hd0, val_other _ _ h91 h123, scalar_bad _ h34 h116 h102 h110 (by simp [h45, hdg])]; exact rfl
                      clear hd0 hdr0 hX
                      go_enter Try.func8, Try.ntmps8
                      go_wp2_with fail
                      go_at_call 17
                      refine (dg17 _ _).mono ?_
                      rintro e w' ⟨rfl, hw'⟩
                      rw [hw']
                      clear hw' w'
                      go_wp2_with fail
                      go_ret
                      exact ⟨by rw [HQ.out]; rfl, 0, rfl⟩
                    · have h9 : 48 ≤ c ∧ c ≤ 57 := by simpa [isDg] using hdg
                      have HQ : Hid (X = idx n (num (bs.drop i))) := by rw [← hX, hd0, val_other _ _ h91 h123, scalar_num _ (.inr hdg)]; exact rfl
                      clear hd0 hdr0 hX
                      go_enter Try.func8, Try.ntmps8
                      go_wp2_with fail
                      go_at_call 17
                      refine (dg17 _ _).mono ?_
                      rintro e w' ⟨rfl, hw'⟩
                      rw [hw']
                      clear hw' w'
                      go_wp2_with fail
                      go_at_call 18
                      refine (num18 g n cp i bs _ hc HL.out hn hlt).mono ?_
                      rintro e w' ⟨rfl, hw'⟩
                      rw [hw']
                      clear hw' w'
                      go_wp2_with fail
                      go_ret
                      exact ⟨by rw [HQ.out]; rfl, 0, rfl⟩
  · generalize hX : idx n (val (m + 1) (bs.drop i)) = X
    have hdge : decide ((10000 : Int) ≤ (d : Int)) = false := by simp; omega
    cases hd0 : bs.drop i with
    | nil =>
      have hkn : n ≤ i := by have := drop_nil hd0; rw [HL.out] at this; exact this
      have hge : decide (n ≤ i) = true := by simp; omega
      have hge' : decide ((n : Int) ≤ (i : Int)) = true := by simp; omega
      have HQ : Hid (X = -1) := by rw [← hX, hd0, val_nil]; exact rfl
      clear hd0 hX
      go_enter Try.func8, Try.ntmps8
      go_wp2_with fail
      go_ret
      exact ⟨by rw [HQ.out]; rfl, 0, rfl⟩
    | cons c r =>
      obtain ⟨-, hlt, hdr0⟩ := drop_at hd0
      rw [HL.out] at hlt
      have cK := hc.rd hd0
      have hge : decide (n ≤ i) = false := by simp; omega
      have hge' : decide ((n : Int) ≤ (i : Int)) = false := by simp; omega
      by_cases h91 : c = 91
      · subst h91
        have HQ : Hid (X = idx n (elems (val m) (bs.drop (i + 1)))) := by rw [← hX, hd0, hdr0]; exact rfl
        clear hd0 hdr0 hX
        go_enter Try.func8, Try.ntmps8
        go_wp2_with fail
        go_at_call 13
        refine (els13 g n cp m (d + 1) i bs _ hc HL.out hn hlt ih (by omega)).mono ?_
        rintro e w' ⟨cn, rfl, q2, hw'⟩
        rw [hw']
        clear hw' w'
        go_wp2_with fail
        go_ret
        exact ⟨by rw [HQ.out]; rfl, _, rfl⟩
      · have h91' : (c == 91) = false := by simpa using h91
        by_cases h123 : c = 123
        · subst h123
          have HQ : Hid (X = idx n (membs (val m) (bs.drop (i + 1)))) := by rw [← hX, hd0, hdr0]; exact rfl
          clear hd0 hdr0 hX
          go_enter Try.func8, Try.ntmps8
          go_wp2_with fail
          go_at_call 14
          refine (mbs14 g n cp m (d + 1) i bs _ hc HL.out hn hlt ih (by omega)).mono ?_
          rintro e w' ⟨rfl, q2, hw'⟩
          rw [hw']
          clear hw' w'
          go_wp2_with fail
          go_ret
          exact ⟨by rw [HQ.out]; rfl, _, rfl⟩
        · have h123' : (c == 123) = false := by simpa using h123
          by_cases h34 : c = 34
          · subst h34
            have HQ : Hid (X = idx n (str (bs.drop (i + 1)))) := by rw [← hX, hd0, val_other _ _ (by decide) (by decide)]; rw [hdr0]; exact rfl
            clear hd0 hdr0 hX
            go_enter Try.func8, Try.ntmps8
            go_wp2_with fail
            go_at_call 15
            refine (str15 g n cp i bs _ hc HL.out hn hlt).mono ?_
            rintro e w' ⟨rfl, hw'⟩
            rw [hw']
            clear hw' w'
            go_wp2_with fail
            go_ret
            exact ⟨by rw [HQ.out]; rfl, 0, rfl⟩
          · have h34' : (c == 34) = false := by simpa using h34
            by_cases h116 : c = 116
            · subst h116
              have HQ : Hid (X = idx n (word [116, 114, 117, 101] (bs.drop i))) := by rw [← hX, hd0, val_other _ _ (by decide) (by decide), word_head]; exact rfl
              clear hd0 hdr0 hX
              go_enter Try.func8, Try.ntmps8
              go_wp2_with fail
              go_at_call 16
              refine (word16t g n cp i bs _ hc HL.out hn hi).mono ?_
              rintro e w' ⟨rfl, q2, hw'⟩
              rw [hw']
              clear hw' w'
              go_wp2_with fail
              go_ret
              exact ⟨by rw [HQ.out]; rfl, _, rfl⟩
            · have h116' : (c == 116) = false := by simpa using h116
              by_cases h102 : c = 102
              · subst h102
                have HQ : Hid (X = idx n (word [102, 97, 108, 115, 101] (bs.drop i))) := by rw [← hX, hd0, val_other _ _ (by decide) (by decide), word_head]; exact rfl
                clear hd0 hdr0 hX
                go_enter Try.func8, Try.ntmps8
                go_wp2_with fail
                go_at_call 16
                refine (word16f g n cp i bs _ hc HL.out hn hi).mono ?_
                rintro e w' ⟨rfl, q2, hw'⟩
                rw [hw']
                clear hw' w'
                go_wp2_with fail
                go_ret
                exact ⟨by rw [HQ.out]; rfl, _, rfl⟩
              · have h102' : (c == 102) = false := by simpa using h102
                by_cases h110 : c = 110
                · subst h110
                  have HQ : Hid (X = idx n (word [110, 117, 108, 108] (bs.drop i))) := by rw [← hX, hd0, val_other _ _ (by decide) (by decide), word_head]; exact rfl
                  clear hd0 hdr0 hX
                  go_enter Try.func8, Try.ntmps8
                  go_wp2_with fail
                  go_at_call 16
                  refine (word16n g n cp i bs _ hc HL.out hn hi).mono ?_
                  rintro e w' ⟨rfl, q2, hw'⟩
                  rw [hw']
                  clear hw' w'
                  go_wp2_with fail
                  go_ret
                  exact ⟨by rw [HQ.out]; rfl, _, rfl⟩
                · have h110' : (c == 110) = false := by simpa using h110
                  by_cases h45 : c = 45
                  · subst h45
                    have HQ : Hid (X = idx n (num (bs.drop i))) := by rw [← hX, hd0, val_other _ _ (by decide) (by decide), scalar_num _ (.inl rfl)]; exact rfl
                    clear hd0 hdr0 hX
                    go_enter Try.func8, Try.ntmps8
                    go_wp2_with fail
                    go_at_call 18
                    refine (num18 g n cp i bs _ hc HL.out hn hlt).mono ?_
                    rintro e w' ⟨rfl, hw'⟩
                    rw [hw']
                    clear hw' w'
                    go_wp2_with fail
                    go_ret
                    exact ⟨by rw [HQ.out]; rfl, 0, rfl⟩
                  · have h45' : (c == 45) = false := by simpa using h45
                    cases hdg : isDg c
                    · have HQ : Hid (X = -1) := by rw [← hX, hd0, val_other _ _ h91 h123, scalar_bad _ h34 h116 h102 h110 (by simp [h45, hdg])]; exact rfl
                      clear hd0 hdr0 hX
                      go_enter Try.func8, Try.ntmps8
                      go_wp2_with fail
                      go_at_call 17
                      refine (dg17 _ _).mono ?_
                      rintro e w' ⟨rfl, hw'⟩
                      rw [hw']
                      clear hw' w'
                      go_wp2_with fail
                      go_ret
                      exact ⟨by rw [HQ.out]; rfl, 0, rfl⟩
                    · have h9 : 48 ≤ c ∧ c ≤ 57 := by simpa [isDg] using hdg
                      have HQ : Hid (X = idx n (num (bs.drop i))) := by rw [← hX, hd0, val_other _ _ h91 h123, scalar_num _ (.inr hdg)]; exact rfl
                      clear hd0 hdr0 hX
                      go_enter Try.func8, Try.ntmps8
                      go_wp2_with fail
                      go_at_call 17
                      refine (dg17 _ _).mono ?_
                      rintro e w' ⟨rfl, hw'⟩
                      rw [hw']
                      clear hw' w'
                      go_wp2_with fail
                      go_at_call 18
                      refine (num18 g n cp i bs _ hc HL.out hn hlt).mono ?_
                      rintro e w' ⟨rfl, hw'⟩
                      rw [hw']
                      clear hw' w'
                      go_wp2_with fail
                      go_ret
                      exact ⟨by rw [HQ.out]; rfl, 0, rfl⟩

theorem ok6 (g n cp : Nat) (bs : List Int) (w : World) (hc : Cel w g bs) (hl : bs.length = n) (hn : n ≤ 1048576) :
    Calls Try.prog 6 #[.slice (some ⟨g, 0, none⟩) n cp] w fun e w' => e = .returned (.bool (okJ bs)) ∧ ∃ q, w' = w.drewN q := by
  have HL : Hid (bs.length = n) := hl
  obtain ⟨k1, -, hk1, hs1, C1⟩ := skipAt g n cp 0 bs hl hn (by omega)
  rw [List.drop_zero] at hs1
  have HC1 : Hid _ := C1
  clear C1
  rcases valAt (value8 g n cp bs hl hn 10000) 0 k1 rfl hl hk1 with ⟨hv, C2⟩ | ⟨k2, hk12, hk2, hv, C2⟩
  · have HC2 : Hid _ := C2
    clear C2
    have HQ : Hid (okJ bs = false) := by
      show okJ bs = false
      simp only [okJ]
      rw [hs1, hv]
    clear hl hs1 hv
    go_enter Try.func6, Try.ntmps6
    go_wp2_with fail
    go_at_call 9
    refine (HC1.out _ hc).mono ?_
    rintro e w' ⟨rfl, hw'⟩
    rw [hw']
    clear hw' w'
    go_wp2_with fail
    go_at_call 8
    refine (HC2.out _ hc).mono ?_
    rintro e w' ⟨rfl, q2, hw'⟩
    rw [hw']
    clear hw' w'
    go_wp2_with fail
    go_ret
    exact ⟨by rw [HQ.out]; rfl, _, rfl⟩
  · have HC2 : Hid _ := C2
    clear C2
    obtain ⟨k3, -, hk3, hs3, C3⟩ := skipAt g n cp k2 bs hl hn hk2
    have HC3 : Hid _ := C3
    clear C3
    have HQ : Hid (okJ bs = ((k3 : Int) == (n : Int))) := by
      show okJ bs = _
      simp only [okJ]
      rw [hs1, hv]
      simp only
      rw [hs3]
      cases h : bs.drop k3 with
      | nil =>
        have := drop_nil h
        have : k3 = n := by omega
        subst this
        simp
      | cons c r =>
        have := (drop_at h).2.1
        have : ¬ (k3 : Int) = (n : Int) := by omega
        simp [this]
    clear hl hs1 hv hs3
    go_enter Try.func6, Try.ntmps6
    go_wp2_with fail
    go_at_call 9
    refine (HC1.out _ hc).mono ?_
    rintro e w' ⟨rfl, hw'⟩
    rw [hw']
    clear hw' w'
    go_wp2_with fail
    go_at_call 8
    refine (HC2.out _ hc).mono ?_
    rintro e w' ⟨rfl, q2, hw'⟩
    rw [hw']
    clear hw' w'
    go_wp2_with fail
    go_at_call 9
    refine (HC3.out _ (hc.drewN _)).mono ?_
    rintro e w' ⟨rfl, hw'⟩
    rw [hw']
    clear hw' w'
    go_wp2_with fail
    go_ret
    exact ⟨by rw [HQ.out]; rfl, _, rfl⟩
end Go.Proofs.Qxb6612399a
