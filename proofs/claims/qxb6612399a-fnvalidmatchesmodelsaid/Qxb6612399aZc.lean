/- zzWord, walked. -/
import Derived.Test.Qxb6612399aZb
namespace Go.Proofs.Qxb6612399a
open Go.RowKit
set_option linter.unusedVariables false

theorem word_short : ∀ (ws l : List Int), l.length < ws.length → word ws l = none
  | [], l, h => by simp at h
  | _ :: _, [], _ => rfl
  | a :: ws, c :: l, h => by
    simp only [word]
    split
    · exact word_short ws l (by simpa using h)
    · rfl
theorem word_bad (bs : List Int) : ∀ (ws : List Int) (i x : Nat), x < ws.length → i + x < bs.length → ¬ bs.getD (i + x) 0 = ws.getD x 0 → word ws (bs.drop i) = none
  | [], i, x, h, _, _ => by simp at h
  | a :: ws, i, 0, h, hb, hne => by
    rw [drop_getD (i := i) (by omega)]
    simp only [word]
    rw [if_neg (by simpa [List.getD] using hne)]
  | a :: ws, i, x + 1, h, hb, hne => by
    rw [drop_getD (i := i) (by omega)]
    simp only [word]
    split
    · refine word_bad bs ws (i + 1) x (by simpa using h) (by omega) ?_
      have e : i + 1 + x = i + (x + 1) := by omega
      rw [e]
      simpa [List.getD] using hne
    · rfl
theorem word_ok (bs : List Int) : ∀ (ws : List Int) (i : Nat), i + ws.length ≤ bs.length → (∀ x, x < ws.length → bs.getD (i + x) 0 = ws.getD x 0) → word ws (bs.drop i) = some (bs.drop (i + ws.length))
  | [], i, _, _ => by simp [word]
  | a :: ws, i, h, hx => by
    have h0 : i < bs.length := by simp at h; omega
    rw [drop_getD (i := i) h0]
    simp only [word]
    rw [if_pos (by have := hx 0 (by simp); simpa [List.getD] using this)]
    have := word_ok bs ws (i + 1) (by simp at h; omega) (fun x hxl => by
      have := hx (x + 1) (by simpa using hxl)
      have e : i + 1 + x = i + (x + 1) := by omega
      rw [e]
      simpa [List.getD] using this)
    rw [this]
    simp; congr 1; omega

set_option maxRecDepth 100000 in
set_option maxHeartbeats 2000000 in
theorem word16 (sb : ByteArray) (ws : List Int) (L : Nat) (hsz : sb.size = L) (hws : ws.length = L) (hL5 : L ≤ 5)
    (hix : ∀ (k : Nat) (w : World), k < L → (Instr.index 9 (.string sb) (.int .i64 (k : Int))).run Try.prog w = .ok (.int .u8 (ws.getD k 0)) w)
    (g n cp i : Nat) (bs : List Int) (w : World) (hc : Cel w g bs) (hl : bs.length = n) (hn : n ≤ 1048576) (hi : i ≤ n) :
    Calls Try.prog 16 #[.slice (some ⟨g, 0, none⟩) n cp, .int .i64 i, .string sb] w fun e w' => e = .returned (.int .i64 (idx n (word ws (bs.drop i)))) ∧ ∃ m, w' = w.drewN m := by
  have HL : Hid (bs.length = n) := hl
  have HW : Hid (ws.length = L) := hws
  have HX : Hid _ := hix
  clear hl hws hix
  by_cases hs : i + L ≤ n
  · have hd : decide ((n : Int) - (i : Int) < (L : Int)) = false := by simp; omega
    go_enter Try.func16, Try.ntmps16
    go_wp2
    go_loopw [7] (fun v wr => ∃ k : Nat, v = .int .i64 k ∧ k ≤ L ∧ (∀ x, x < k → bs.getD (i + x) 0 = ws.getD x 0) ∧ ∃ m, wr = w.drewN m) (fun v _ => L - (intOf v).toNat)
    case atStart => exact ⟨0, rfl, by omega, by intro x hx; omega, 0, rfl⟩
    case round =>
      obtain ⟨k, rfl, hk, hall, m, hwr⟩ := hrel
      subst hwr
      have HA : Hid _ := hall
      clear hall
      by_cases hk4 : k < L
      · have cQ := hc.getD (i := i + k) (by rw [HL.out]; omega)
        have hx := fun w => HX.out k w hk4
        by_cases hq : bs.getD (i + k) 0 = ws.getD k 0
        · have HB : Hid (∀ x, x < k + 1 → bs.getD (i + x) 0 = ws.getD x 0) := fun x h2 => by
            by_cases hx : x = k
            · subst hx; exact hq
            · exact HA.out x (by omega)
          rw [hq] at cQ
          clear hq HA
          generalize ws.getD k 0 = z at cQ hx
          go_wp2
          go_quiet (fail)
          go_wp2
          refine ⟨⟨k + 1, by go_num, by omega, HB.out, _, rfl⟩, ?_⟩
          simp [intOf]; omega
        · have HR : Hid (idx n (word ws (bs.drop i)) = -1) := by
            rw [word_bad bs _ i k (by rw [HW.out]; exact hk4) (by rw [HL.out]; omega) hq]; rfl
          generalize ws.getD k 0 = z at hx hq
          generalize bs.getD (i + k) 0 = y at cQ hq
          have hne : (y != z) = true := by simpa using hq
          clear hq
          go_wp2
          go_quiet (fail)
          go_wp2
          go_ret
          exact ⟨by rw [HR.out]; rfl, _, World.drewN_drewN _ _ _⟩
      · have HR : Hid (idx n (word ws (bs.drop i)) = ((i + L : Nat) : Int)) := by
          rw [word_ok bs _ i (by rw [HL.out, HW.out]; exact hs) (fun x hx => HA.out x (by rw [HW.out] at hx; omega))]
          exact idx_some _ _ _ (by simp; have := HL.out; have := HW.out; omega)
        go_wp2
        go_ret
        exact ⟨by rw [HR.out]; go_num, m, rfl⟩
  · have HR : Hid (idx n (word ws (bs.drop i)) = -1) := by
      rw [word_short _ _ (by simp; have := HL.out; have := HW.out; omega)]; rfl
    have hd : decide ((n : Int) - (i : Int) < (L : Int)) = true := by simp; omega
    go_enter Try.func16, Try.ntmps16
    go_wp2
    go_ret
    exact ⟨by rw [HR.out]; rfl, 0, rfl⟩

theorem idxT (k : Nat) (w : World) (h : k < 4) : (Instr.index 9 (.string { data := #[116, 114, 117, 101] }) (.int .i64 (k : Int))).run Try.prog w = .ok (.int .u8 ([116, 114, 117, 101].getD k 0)) w := by
  have : k = 0 ∨ k = 1 ∨ k = 2 ∨ k = 3 := by omega
  rcases this with rfl | rfl | rfl | rfl <;> (show _ = _; kernel_rfl)
theorem idxF (k : Nat) (w : World) (h : k < 5) : (Instr.index 9 (.string { data := #[102, 97, 108, 115, 101] }) (.int .i64 (k : Int))).run Try.prog w = .ok (.int .u8 ([102, 97, 108, 115, 101].getD k 0)) w := by
  have : k = 0 ∨ k = 1 ∨ k = 2 ∨ k = 3 ∨ k = 4 := by omega
  rcases this with rfl | rfl | rfl | rfl | rfl <;> (show _ = _; kernel_rfl)
theorem idxN (k : Nat) (w : World) (h : k < 4) : (Instr.index 9 (.string { data := #[110, 117, 108, 108] }) (.int .i64 (k : Int))).run Try.prog w = .ok (.int .u8 ([110, 117, 108, 108].getD k 0)) w := by
  have : k = 0 ∨ k = 1 ∨ k = 2 ∨ k = 3 := by omega
  rcases this with rfl | rfl | rfl | rfl <;> (show _ = _; kernel_rfl)
theorem word16t (g n cp i : Nat) (bs : List Int) (w : World) (hc : Cel w g bs) (hl : bs.length = n) (hn : n ≤ 1048576) (hi : i ≤ n) :
    Calls Try.prog 16 #[.slice (some ⟨g, 0, none⟩) n cp, .int .i64 i, .string { data := #[116, 114, 117, 101] }] w fun e w' => e = .returned (.int .i64 (idx n (word [116, 114, 117, 101] (bs.drop i)))) ∧ ∃ m, w' = w.drewN m :=
  word16 { data := #[116, 114, 117, 101] } [116, 114, 117, 101] 4 rfl rfl (by decide) idxT g n cp i bs w hc hl hn hi
theorem word16f (g n cp i : Nat) (bs : List Int) (w : World) (hc : Cel w g bs) (hl : bs.length = n) (hn : n ≤ 1048576) (hi : i ≤ n) :
    Calls Try.prog 16 #[.slice (some ⟨g, 0, none⟩) n cp, .int .i64 i, .string { data := #[102, 97, 108, 115, 101] }] w fun e w' => e = .returned (.int .i64 (idx n (word [102, 97, 108, 115, 101] (bs.drop i)))) ∧ ∃ m, w' = w.drewN m :=
  word16 { data := #[102, 97, 108, 115, 101] } [102, 97, 108, 115, 101] 5 rfl rfl (by decide) idxF g n cp i bs w hc hl hn hi
theorem word16n (g n cp i : Nat) (bs : List Int) (w : World) (hc : Cel w g bs) (hl : bs.length = n) (hn : n ≤ 1048576) (hi : i ≤ n) :
    Calls Try.prog 16 #[.slice (some ⟨g, 0, none⟩) n cp, .int .i64 i, .string { data := #[110, 117, 108, 108] }] w fun e w' => e = .returned (.int .i64 (idx n (word [110, 117, 108, 108] (bs.drop i)))) ∧ ∃ m, w' = w.drewN m :=
  word16 { data := #[110, 117, 108, 108] } [110, 117, 108, 108] 4 rfl rfl (by decide) idxN g n cp i bs w hc hl hn hi
end Go.Proofs.Qxb6612399a
