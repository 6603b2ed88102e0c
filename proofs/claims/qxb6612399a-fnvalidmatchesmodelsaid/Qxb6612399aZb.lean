/- zzString, walked. -/
import Derived.Test.Qxb6612399aZa
namespace Go.Proofs.Qxb6612399a
open Go.RowKit
set_option linter.unusedVariables false

theorem idx_none (n : Nat) : idx n none = -1 := rfl
theorem idx_some (n k : Nat) (l : List Int) (h : l.length + k = n) : idx n (some l) = (k : Int) := by simp [idx]; omega

theorem str_nil : str [] = none := rfl
theorem str_q (l : List Int) : str (34 :: l) = some l := by unfold str; simp
theorem str_ctl {c : Int} (l : List Int) (h1 : ¬ c = 34) (h2 : c < 32) : str (c :: l) = none := by unfold str; simp [h1, h2]
theorem str_any {c : Int} (l : List Int) (h1 : ¬ c = 34) (h2 : ¬ c < 32) (h3 : ¬ c = 92) : str (c :: l) = str l := by
  generalize hx : str l = x
  unfold str
  simp [h1, h2, h3, hx]
theorem str_bs0 : str [92] = none := by simp [str]
theorem str_esc {e : Int} (l : List Int) (h : isEsc e = true) : str (92 :: e :: l) = str l := by
  generalize hx : str l = x
  unfold str
  simp [h, hx]
theorem str_badesc {e : Int} (l : List Int) (h : isEsc e = false) (h2 : ¬ e = 117) : str (92 :: e :: l) = none := by
  unfold str
  simp [h, h2]
theorem esc_u : isEsc 117 = false := by decide
theorem str_u4 {a b c d : Int} (l : List Int) : str (92 :: 117 :: a :: b :: c :: d :: l) = if isHx a && isHx b && isHx c && isHx d then str l else none := by
  generalize hx : str l = x
  unfold str
  simp [esc_u, hx]
theorem str_u {l : List Int} (h : l.length < 4) : str (92 :: 117 :: l) = none := by
  match l, h with
  | [], _ => simp [str, esc_u]
  | [_], _ => simp [str, esc_u]
  | [_, _], _ => simp [str, esc_u]
  | [_, _, _], _ => simp [str, esc_u]
  | _ :: _ :: _ :: _ :: _, h => simp at h; omega

theorem esc_of {e : Int} (h : isEsc e = true) : e = 34 ∨ e = 92 ∨ e = 47 ∨ e = 98 ∨ e = 102 ∨ e = 110 ∨ e = 114 ∨ e = 116 := by
  simp [isEsc] at h; omega
theorem esc_not {e : Int} (h : isEsc e = false) : (e == 34) = false ∧ (e == 92) = false ∧ (e == 47) = false ∧ (e == 98) = false ∧ (e == 102) = false ∧ (e == 110) = false ∧ (e == 114) = false ∧ (e == 116) = false := by
  simp [isEsc] at h ⊢; omega

theorem drop_getD {bs : List Int} {i : Nat} (h : i < bs.length) : bs.drop i = bs.getD i 0 :: bs.drop (i + 1) := by
  rw [List.drop_eq_getElem_cons h]; simp [List.getD, h]
theorem str_u_all {bs : List Int} {k : Nat} {r : List Int} (h : bs.drop k = 92 :: 117 :: r) (hk : k + 6 ≤ bs.length) :
    str (bs.drop k) = if isHx (bs.getD (k + 2) 0) && isHx (bs.getD (k + 3) 0) && isHx (bs.getD (k + 4) 0) && isHx (bs.getD (k + 5) 0) then str (bs.drop (k + 6)) else none := by
  obtain ⟨-, -, h1⟩ := drop_at h
  obtain ⟨-, -, h2⟩ := drop_at h1
  rw [h, ← h2, drop_getD (i := k + 1 + 1) (by omega), drop_getD (i := k + 1 + 1 + 1) (by omega), drop_getD (i := k + 1 + 1 + 1 + 1) (by omega), drop_getD (i := k + 1 + 1 + 1 + 1 + 1) (by omega), str_u4]
theorem Cel.getD {w : World} {g : Nat} {bs : List Int} {i : Nat} (h : Cel w g bs) (hi : i < bs.length) : w.cell? ⟨g, i, none⟩ = some (.int .u8 (bs.getD i 0)) := h i _ (by simp [List.getD, hi])

set_option maxRecDepth 100000 in
set_option maxHeartbeats 2000000 in
theorem str15 (g n cp i : Nat) (bs : List Int) (w : World) (hc : Cel w g bs) (hl : bs.length = n) (hn : n ≤ 1048576) (hi : i < n) :
    Calls Try.prog 15 #[.slice (some ⟨g, 0, none⟩) n cp, .int .i64 i] w fun e w' => e = .returned (.int .i64 (idx n (str (bs.drop (i + 1))))) ∧ w' = w := by
  have hnot : ∀ (x : Bool) (w : World), (Op.unary .not (.bool x)).run Try.prog w = .ok (.bool (!x)) w := fun _ _ => rfl
  have HL : Hid (bs.length = n) := hl
  clear hl
  go_enter Try.func15, Try.ntmps15
  go_wp2
  go_loop [1] (fun v => ∃ k : Nat, v = .int .i64 k ∧ k ≤ n ∧ str (bs.drop k) = str (bs.drop (i + 1))) (fun v => n - (intOf v).toNat)
  case atStart => exact ⟨i + 1, by go_num, by omega, rfl⟩
  case round =>
    obtain ⟨k, rfl, hk, he⟩ := hrel
    have HE : Hid _ := he
    clear he
    cases hd : bs.drop k with
    | nil =>
      have hkn : n ≤ k := by have := drop_nil hd; rw [HL.out] at this; exact this
      have hlt : ¬ k < n := by omega
      have HR : Hid (idx n (str (bs.drop (i + 1))) = -1) := by rw [← HE.out, hd]; rfl
      clear hd
      go_wp2
      go_ret
      exact ⟨by rw [HR.out]; rfl, rfl⟩
    | cons c r =>
      obtain ⟨-, hlt, hdr⟩ := drop_at hd
      rw [HL.out] at hlt
      have cK := hc.rd hd
      have hrl : r.length + (k + 1) = n := by rw [← hdr]; simp; have := HL.out; omega
      by_cases h1 : c = 34
      · subst h1
        have HR : Hid (idx n (str (bs.drop (i + 1))) = ((k + 1 : Nat) : Int)) := by rw [← HE.out, hd, str_q]; exact idx_some _ _ _ hrl
        clear hd hdr hrl
        go_wp2
        go_ret
        exact ⟨by rw [HR.out]; go_num, rfl⟩
      · have h1' : (c == 34) = false := by simpa using h1
        by_cases h2 : c < 32
        · have HR : Hid (idx n (str (bs.drop (i + 1))) = -1) := by rw [← HE.out, hd, str_ctl _ h1 h2]; rfl
          clear hd hdr hrl
          go_wp2
          go_ret
          exact ⟨by rw [HR.out]; rfl, rfl⟩
        · by_cases h3 : c = 92
          · subst h3
            clear h1 h1' h2
            cases hr : r with
            | nil =>
              subst hr
              have HR : Hid (idx n (str (bs.drop (i + 1))) = -1) := by rw [← HE.out, hd, str_bs0]; rfl
              have hk1 : ¬ k + 1 < n := by simp at hrl; omega
              clear hd hdr hrl
              go_wp2
              go_ret
              exact ⟨by rw [HR.out]; rfl, rfl⟩
            | cons e r2 =>
              subst hr
              obtain ⟨-, hlt2, hdr2⟩ := drop_at hdr
              rw [HL.out] at hlt2
              have cE := hc.rd hdr
              cases hes : isEsc e
              · by_cases hu : e = 117
                · subst hu
                  by_cases h6 : k + 6 ≤ n
                  · have hU := str_u_all hd (by rw [HL.out]; exact h6)
                    rw [HE.out] at hU
                    have HU : Hid _ := hU
                    have hcl : ∀ q, q < 6 → w.cell? ⟨g, k + q, none⟩ = some (.int .u8 (bs.getD (k + q) 0)) := fun q hq => hc.getD (by rw [HL.out]; omega)
                    have HC : Hid _ := hcl
                    clear hd hdr hrl hdr2 hU hcl hes
                    go_wp2
                    go_loop [6] (fun v => ∃ q : Nat, v = .int .i64 q ∧ 2 ≤ q ∧ q ≤ 6 ∧ ∀ x, 2 ≤ x → x < q → isHx (bs.getD (k + x) 0) = true) (fun v => 6 - (intOf v).toNat)
                    case atStart => exact ⟨2, rfl, by omega, by omega, by intro x h1 h2; omega⟩
                    case round =>
                      obtain ⟨q, rfl, hq2, hq6, hall⟩ := hrel
                      have HA : Hid _ := hall
                      clear hall
                      by_cases hq : q < 6
                      · have cQ := HC.out q hq
                        cases hh : isHx (bs.getD (k + q) 0)
                        · have HR : Hid (idx n (str (bs.drop (i + 1))) = -1) := by
                            rw [HU.out, if_neg]
                            · exact rfl
                            · have hqs : q = 2 ∨ q = 3 ∨ q = 4 ∨ q = 5 := by omega
                              rcases hqs with rfl | rfl | rfl | rfl <;> (rw [hh]; simp)
                          generalize bs.getD (k + q) 0 = z at cQ hh
                          go_wp2_with (go_at_call 27; refine (hx27 _ _).mono ?_; rintro e w' ⟨rfl, hw'⟩; rw [hw']; clear hw' w')
                          go_ret
                          exact ⟨by rw [HR.out]; rfl, rfl⟩
                        · have HB : Hid (∀ x, 2 ≤ x → x < q + 1 → isHx (bs.getD (k + x) 0) = true) := fun x h1 h2 => by
                            by_cases hx : x = q
                            · subst hx; exact hh
                            · exact HA.out x h1 (by omega)
                          generalize bs.getD (k + q) 0 = z at cQ hh
                          go_wp2_with (go_at_call 27; refine (hx27 _ _).mono ?_; rintro e w' ⟨rfl, hw'⟩; rw [hw']; clear hw' w')
                          go_round
                          case rel => exact ⟨q + 1, by go_num, by omega, by omega, HB.out⟩
                          case measure => simp [intOf]; omega
                      · have HR : Hid (str (bs.drop (k + 6)) = str (bs.drop (i + 1))) := by
                          rw [HU.out, if_pos]
                          · exact rfl
                          · have a := HA.out 2 (by omega) (by omega)
                            have b := HA.out 3 (by omega) (by omega)
                            have c := HA.out 4 (by omega) (by omega)
                            have d := HA.out 5 (by omega) (by omega)
                            rw [a, b, c, d]; rfl
                        go_wp2
                        go_round
                        case rel => exact ⟨k + 6, by go_num, by omega, HR.out⟩
                        case measure => simp [intOf]; omega
                  · have HR : Hid (idx n (str (bs.drop (i + 1))) = -1) := by
                      rw [← HE.out, hd, str_u]
                      · exact rfl
                      · simp at hrl; omega
                    clear hd hdr hrl hdr2
                    go_wp2
                    go_ret
                    exact ⟨by rw [HR.out]; rfl, rfl⟩
                · obtain ⟨e1, e2, e3, e4, e5, e6, e7, e8⟩ := esc_not hes
                  have hu' : (e == 117) = false := by simpa using hu
                  have HR : Hid (idx n (str (bs.drop (i + 1))) = -1) := by rw [← HE.out, hd, str_badesc _ hes hu]; rfl
                  clear hd hdr hrl hdr2 hes
                  go_wp2
                  go_ret
                  exact ⟨by rw [HR.out]; rfl, rfl⟩
              · have HR : Hid (str (bs.drop (k + 2)) = str (bs.drop (i + 1))) := by rw [← HE.out, hd, str_esc _ hes, hdr2]; exact rfl
                clear hd hdr hrl hdr2
                rcases esc_of hes with rfl | rfl | rfl | rfl | rfl | rfl | rfl | rfl
                all_goals
                  go_wp2
                  go_round
                  case rel => exact ⟨k + 2, by go_num, by omega, HR.out⟩
                  case measure => simp [intOf]; omega
          · have h3' : (c != 92) = true := by simpa using h3
            have HR : Hid (str (bs.drop (k + 1)) = str (bs.drop (i + 1))) := by rw [← HE.out, hd, str_any _ h1 h2 h3, hdr]; exact rfl
            clear hd hdr hrl
            go_wp2
            go_round
            case rel => exact ⟨k + 1, by go_num, by omega, HR.out⟩
            case measure => simp [intOf]; omega
end Go.Proofs.Qxb6612399a
