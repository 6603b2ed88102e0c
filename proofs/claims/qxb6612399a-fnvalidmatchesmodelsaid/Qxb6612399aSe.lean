/- inString, walked. -/
import Derived.Test.Qxb6612399aSd
namespace Go.Proofs.Qxb6612399a
open Go.RowKit
set_option linter.unusedVariables false

/-- a step that may read several bytes: it hands back the last index that it has read; A0: what is to come of the bytes from k on -/
def InP (B : Nat) (w0 : World) (t : Nat) (bs : List Int) (k n : Nat) (A0 : Bool) (e : Ending) (w' : World) : Prop :=
  ∃ j : Nat, e = .returned (.int .i64 j) ∧ k ≤ j ∧ j ≤ n ∧ ((Bad B w0 w' t ∧ A0 = false) ∨ ∃ s', Sc B w0 w' t s' ∧ A0 = Acc s' (bs.drop (j + 1)))

theorem acc6_q (stk : List Bool) (key : Bool) (l : List Int) : Acc (inStr stk key) (34 :: l) = Acc (mk (if key then 4 else 5) stk) l := by cases key <;> simp [Acc, nxt, inStr]
theorem acc6_b (stk : List Bool) (key : Bool) (l : List Int) : Acc (inStr stk key) (92 :: l) = Acc ⟨7, stk, key, [], 0⟩ l := by cases key <;> simp [Acc, nxt, inStr]
theorem acc6_lo (stk : List Bool) (key : Bool) {c : Int} (l : List Int) (h1 : ¬ c = 34) (h2 : ¬ c = 92) (h3 : c < 32) : Acc (inStr stk key) (c :: l) = false := by simp [Acc, nxt, inStr, h1, h2, h3]
theorem acc6_go (stk : List Bool) (key : Bool) {c : Int} (l : List Int) (h1 : ¬ c = 34) (h2 : ¬ c = 92) (h3 : ¬ c < 32) : Acc (inStr stk key) (c :: l) = Acc (inStr stk key) l := by simp [Acc, nxt, inStr, h1, h2, h3]
theorem Ext.esc (stk : List Bool) (k : Bool) (lv hv : Value) (h2 : stk.length ≤ 10000) : Ext ⟨7, stk, k, [], 0⟩ (.bool k) lv hv := by
  refine ⟨fun a b => rfl, fun a => ?_, fun a => ?_, fun a => ?_, h2, ?_⟩ <;> simp at *

set_option maxRecDepth 10000 in
set_option maxHeartbeats 4000000 in
theorem inStr24 (B : Nat) (w0 w : World) (t g n cp k : Nat) (bs : List Int) (stk : List Bool) (key : Bool) (o : Nat) (dv lv hv : Value) (x y : Int) (hc : Cel w g bs) (hl : bs.length = n) (hn : n ≤ 1048576) (hk : k < n)
    (h : At B w0 w t 6 stk o dv (.bool key) lv hv (.int .i64 x) (.int .i64 y)) (hr : stk.length ≤ 10000) :
    Calls Try.prog 24 #[.pointer (some ⟨t, 0, none⟩), .slice (some ⟨g, 0, none⟩) n cp, .int .i64 k] w (InP B w0 t bs k n (Acc (inStr stk key) (bs.drop k))) := by
  have HL : Hid (bs.length = n) := hl
  clear hl
  have c0 := h.raw.c0
  have c5 := h.raw.c5
  have f0 := h.raw.fz 0
  have HA : Hid (At B w0 w t 6 stk o dv (.bool key) lv hv (.int .i64 x) (.int .i64 y)) := h
  clear h
  go_enter Try.func24, Try.ntmps24
  go_wp2
  go_loop [2] (fun v => ∃ j : Nat, v = .int .i64 j ∧ k ≤ j ∧ j ≤ n ∧ Acc (inStr stk key) (bs.drop k) = Acc (inStr stk key) (bs.drop j)) (fun v => n - (intOf v).toNat)
  case atStart => exact ⟨k, rfl, by omega, by omega, rfl⟩
  case round =>
    obtain ⟨j, rfl, hkj, hj, he⟩ := hrel
    have HE : Hid (Acc (inStr stk key) (bs.drop k) = Acc (inStr stk key) (bs.drop j)) := he
    clear he
    cases hd : bs.drop j with
    | nil =>
      have hkn : n ≤ j := by have := drop_nil hd; rw [HL.out] at this; exact this
      have hlt : ¬ j < n := by omega
      have HR : Hid (Acc (inStr stk key) (bs.drop k) = Acc (inStr stk key) (bs.drop (j + 1))) := by
        rw [HE.out, hd, List.drop_eq_nil_of_le (by rw [HL.out]; omega)]; exact rfl
      clear hd
      go_wp2
      go_ret
      exact ⟨j, rfl, hkj, hj, .inr ⟨inStr stk key, HA.out.step (inStr stk key) (Ext.str _ _ _ _ hr), HR.out⟩⟩
    | cons c r =>
      obtain ⟨-, hlt, hdr⟩ := drop_at hd
      rw [HL.out] at hlt
      have cK := hc.rd hd
      by_cases h34 : c = 34
      · subst h34
        have HR : Hid (Acc (inStr stk key) (bs.drop k) = Acc (mk (if key then 4 else 5) stk) (bs.drop (j + 1))) := by
          rw [HE.out, hd, hdr, acc6_q]; exact rfl
        clear hd hdr
        cases key
        · go_wp2
          go_ret
          exact ⟨j, rfl, hkj, hj, .inr ⟨mk 5 stk, (HA.out.s0 5).step (mk 5 stk) (Ext.plain _ _ _ _ _ (by omega) (by simp) hr), HR.out⟩⟩
        · go_wp2
          go_ret
          exact ⟨j, rfl, hkj, hj, .inr ⟨mk 4 stk, ((HA.out.s0 5).s0 4).step (mk 4 stk) (Ext.plain _ _ _ _ _ (by omega) (by simp) hr), HR.out⟩⟩
      · have h34' : (c == 34) = false := by simpa using h34
        by_cases h92 : c = 92
        · subst h92
          have HR : Hid (Acc (inStr stk key) (bs.drop k) = Acc ⟨7, stk, key, [], 0⟩ (bs.drop (j + 1))) := by
            rw [HE.out, hd, hdr, acc6_b]; exact rfl
          clear hd hdr
          go_wp2
          go_ret
          exact ⟨j, rfl, hkj, hj, .inr ⟨⟨7, stk, key, [], 0⟩, (HA.out.s0 7).step ⟨7, stk, key, [], 0⟩ (Ext.esc _ _ _ _ hr), HR.out⟩⟩
        · have h92' : (c == 92) = false := by simpa using h92
          by_cases h32 : c < 32
          · have h32' : decide (c < 32) = true := by simpa using h32
            have HR : Hid (Acc (inStr stk key) (bs.drop k) = false) := by
              rw [HE.out, hd, acc6_lo _ _ _ h34 h92 h32]; exact rfl
            clear hd hdr
            go_wp2
            go_ret
            exact ⟨j, rfl, hkj, hj, .inl ⟨(HA.out.s0 18).bad, HR.out⟩⟩
          · have h32' : decide (c < 32) = false := by simpa using h32
            have HR : Hid (Acc (inStr stk key) (bs.drop k) = Acc (inStr stk key) (bs.drop (j + 1))) := by
              rw [HE.out, hd, hdr, acc6_go _ _ _ h34 h92 h32]; exact rfl
            clear hd hdr
            go_wp2
            go_round
            case rel => exact ⟨j + 1, by go_num, by omega, by omega, HR.out⟩
            case measure => simp [intOf]; omega
end Go.Proofs.Qxb6612399a
