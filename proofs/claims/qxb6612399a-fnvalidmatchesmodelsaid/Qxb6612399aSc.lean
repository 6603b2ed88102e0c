/- begin, walked; the scanner as the walks speak of it. -/
import Derived.Test.Qxb6612399aSb
namespace Go.Proofs.Qxb6612399a
open Go.RowKit
set_option linter.unusedVariables false

/-- what is left of a literal, as the record holds it -/
def Lft (sb : ByteArray) (l : List Int) : Prop :=
  (sb = { data := #[114, 117, 101] } ∧ l = [114, 117, 101]) ∨ (sb = { data := #[117, 101] } ∧ l = [117, 101]) ∨ (sb = { data := #[101] } ∧ l = [101])
  ∨ (sb = { data := #[97, 108, 115, 101] } ∧ l = [97, 108, 115, 101]) ∨ (sb = { data := #[108, 115, 101] } ∧ l = [108, 115, 101]) ∨ (sb = { data := #[115, 101] } ∧ l = [115, 101])
  ∨ (sb = { data := #[117, 108, 108] } ∧ l = [117, 108, 108]) ∨ (sb = { data := #[108, 108] } ∧ l = [108, 108]) ∨ (sb = { data := #[108] } ∧ l = [108])

def Ext (s : S) (kv lv hv : Value) : Prop :=
  (6 ≤ s.st → s.st ≤ 8 → kv = .bool s.key) ∧ (s.st = 9 → ∃ sb, lv = .string sb ∧ Lft sb s.left) ∧ (s.st = 8 → hv = .int .i64 (s.hex : Int) ∧ 1 ≤ s.hex ∧ s.hex ≤ 4) ∧ (s.st = 1 ∨ s.st = 2 → s.stk ≠ []) ∧ s.stk.length ≤ 10000 ∧ s.st ≤ 17

/-- the scanner's record at t, its stack, and what has turned since w0 -/
structure At (B : Nat) (w0 w : World) (t : Nat) (st : Int) (stk : List Bool) (o : Nat) (dv kv lv hv xv yv : Value) : Prop where
  raw : Raw w t st stk.length o dv kv lv hv xv yv
  stk : Stk B w o dv stk
  bel : Below B w0 w
  hBt : B ≤ t

section
variable {B : Nat} {w0 w : World} {t : Nat} {st : Int} {stk : List Bool} {o : Nat} {dv kv lv hv xv yv : Value}
theorem At.s0 (h : At B w0 w t st stk o dv kv lv hv xv yv) (v : Int) : At B w0 (w.setCell ⟨t, 0, none⟩ (.int .u8 v)) t v stk o dv kv lv hv xv yv :=
  ⟨h.raw.s0 v, h.stk.set h.raw 0 _, h.bel.setCell (p := ⟨t, 0, none⟩) h.hBt _, h.hBt⟩
theorem At.s5 (h : At B w0 w t st stk o dv kv lv hv xv yv) (v : Value) : At B w0 (w.setCell ⟨t, 5, none⟩ v) t st stk o dv v lv hv xv yv :=
  ⟨h.raw.s5 v, h.stk.set h.raw 5 _, h.bel.setCell (p := ⟨t, 5, none⟩) h.hBt _, h.hBt⟩
theorem At.s6 (h : At B w0 w t st stk o dv kv lv hv xv yv) (v : Value) : At B w0 (w.setCell ⟨t, 6, none⟩ v) t st stk o dv kv v hv xv yv :=
  ⟨h.raw.s6 v, h.stk.set h.raw 6 _, h.bel.setCell (p := ⟨t, 6, none⟩) h.hBt _, h.hBt⟩
theorem At.s7 (h : At B w0 w t st stk o dv kv lv hv xv yv) (v : Value) : At B w0 (w.setCell ⟨t, 7, none⟩ v) t st stk o dv kv lv v xv yv :=
  ⟨h.raw.s7 v, h.stk.set h.raw 7 _, h.bel.setCell (p := ⟨t, 7, none⟩) h.hBt _, h.hBt⟩
theorem At.s8 (h : At B w0 w t st stk o dv kv lv hv xv yv) (v : Value) : At B w0 (w.setCell ⟨t, 8, none⟩ v) t st stk o dv kv lv hv v yv :=
  ⟨h.raw.s8 v, h.stk.set h.raw 8 _, h.bel.setCell (p := ⟨t, 8, none⟩) h.hBt _, h.hBt⟩
theorem At.s9 (h : At B w0 w t st stk o dv kv lv hv xv yv) (v : Value) : At B w0 (w.setCell ⟨t, 9, none⟩ v) t st stk o dv kv lv hv xv v :=
  ⟨h.raw.s9 v, h.stk.set h.raw 9 _, h.bel.setCell (p := ⟨t, 9, none⟩) h.hBt _, h.hBt⟩
theorem At.drew (h : At B w0 w t st stk o dv kv lv hv xv yv) : At B w0 w.drew t st stk o dv kv lv hv xv yv := ⟨h.raw, h.stk, h.bel.drew, h.hBt⟩
theorem At.drewN (h : At B w0 w t st stk o dv kv lv hv xv yv) (m : Nat) : At B w0 (w.drewN m) t st stk o dv kv lv hv xv yv :=
  ⟨h.raw, h.stk, ⟨h.bel.os, h.bel.tape, h.bel.output, h.bel.size, h.bel.block⟩, h.hBt⟩
end

/-- the scanner at t stands as the plain machine s -/
def Sc (B : Nat) (w0 w : World) (t : Nat) (s : S) : Prop :=
  ∃ kv lv hv, Ext s kv lv hv ∧ ∃ o dv, ∃ x y : Int, At B w0 w t s.st s.stk o dv kv lv hv (.int .i64 x) (.int .i64 y)
/-- the scanner at t has failed -/
def Bad (B : Nat) (w0 w : World) (t : Nat) : Prop := ∃ stk o dv kv lv hv xv yv, At B w0 w t 18 stk o dv kv lv hv xv yv
def StepP (B : Nat) (w0 : World) (t : Nat) (o : Option S) (w' : World) : Prop := match o with | none => Bad B w0 w' t | some s' => Sc B w0 w' t s'
section
variable {B : Nat} {w0 w : World} {t : Nat} {st : Int} {stk : List Bool} {o : Nat} {dv kv lv hv xv yv : Value}
theorem At.bad (h : At B w0 w t 18 stk o dv kv lv hv xv yv) : StepP B w0 t none w := ⟨stk, o, dv, kv, lv, hv, xv, yv, h⟩
theorem At.step {x y : Int} (s : S) (h : At B w0 w t s.st s.stk o dv kv lv hv (.int .i64 x) (.int .i64 y)) (he : Ext s kv lv hv) : StepP B w0 t (some s) w := ⟨kv, lv, hv, he, o, dv, x, y, h⟩
theorem At.post {w' : World} (h : At B w0 w t st stk o dv kv lv hv xv yv) {st' : Int} {stk' : List Bool} (hp : Post B w t st' stk' kv lv hv w') :
    ∃ o' dv', ∃ x y : Int, At B w0 w' t st' stk' o' dv' kv lv hv (.int .i64 x) (.int .i64 y) := by
  obtain ⟨o', dv', xv', yv', h1, h2, h3, ⟨x, rfl⟩, ⟨y, rfl⟩⟩ := hp
  exact ⟨o', dv', x, y, h1, h2, h.bel.trans h3, h.hBt⟩
end

theorem Ext.plain (st : Nat) (stk : List Bool) (kv lv hv : Value) (h : st < 6 ∨ 10 ≤ st ∧ st ≤ 17) (h1 : st = 1 ∨ st = 2 → stk ≠ []) (h2 : stk.length ≤ 10000) : Ext (mk st stk) kv lv hv := by
  refine ⟨fun a b => ?_, fun a => ?_, fun a => ?_, h1, h2, ?_⟩ <;> simp only [mk] at * <;> omega
theorem Ext.str (stk : List Bool) (k : Bool) (lv hv : Value) (h2 : stk.length ≤ 10000) : Ext (inStr stk k) (.bool k) lv hv := by
  refine ⟨fun a b => rfl, fun a => ?_, fun a => ?_, fun a => ?_, h2, ?_⟩ <;> simp [inStr] at *
theorem Ext.lit (stk : List Bool) (l : List Int) (sb : ByteArray) (kv hv : Value) (hl : Lft sb l) (h2 : stk.length ≤ 10000) : Ext ⟨9, stk, false, l, 0⟩ kv (.string sb) hv := by
  refine ⟨fun a b => ?_, fun a => ⟨sb, rfl, hl⟩, fun a => ?_, fun a => ?_, h2, ?_⟩ <;> simp at *

theorem bgn_open (b : Bool) (stk : List Bool) : bgn stk (bopen b) = if stk.length = 10000 then none else some (mk (if b then 2 else 1) (b :: stk)) := by
  cases b <;> simp [bgn, bopen]

set_option maxRecDepth 10000 in
set_option maxHeartbeats 4000000 in
theorem begin22 (B : Nat) (w0 w : World) (t : Nat) (st : Int) (stk : List Bool) (c : Int) (o : Nat) (dv kv lv hv : Value) (x y : Int) (h : At B w0 w t st stk o dv kv lv hv (.int .i64 x) (.int .i64 y)) (hr : stk.length ≤ 10000) :
    Calls Try.prog 22 #[.pointer (some ⟨t, 0, none⟩), .int .u8 c] w fun e w' => e = .returned (.tuple #[]) ∧ StepP B w0 t (bgn stk c) w' := by
  have c0 := h.raw.c0
  have c1 := h.raw.c1
  have c2 := h.raw.c2
  have c5 := h.raw.c5
  have c6 := h.raw.c6
  have c8 := h.raw.c8
  have c9 := h.raw.c9
  have f0 := h.raw.fz 0
  have f5 := h.raw.fz 5
  have f6 := h.raw.fz 6
  have f8 := h.raw.fz 8
  have f9 := h.raw.fz 9
  have HA : Hid (At B w0 w t st stk o dv kv lv hv (.int .i64 x) (.int .i64 y)) := h
  clear h
  have HX : Hid (∀ z, bgn stk c = z → StepP B w0 t (bgn stk c) = StepP B w0 t z) := fun z hz => by rw [hz]
  generalize hX : bgn stk c = X
  clear HX
  by_cases hc : c = 123
  · subst hc
    by_cases hfull : stk.length = 10000
    · have HQ : Hid (X = none) := by rw [← hX]; exact (bgn_open true stk).trans (if_pos hfull)
      have hd : ((stk.length : Int) == 10000) = true := by simp; omega
      clear hX
      go_enter Try.func22, Try.ntmps22
      go_wp2
      go_quiet (fail)
      go_wp2
      refine bodyPost_ret (results_none rfl _ _ _) rfl ?_
      refine ⟨rfl, ?_⟩
      rw [HQ.out]
      exact ((((HA.out.s8 _).s9 _).drewN _).s0 18).bad
    · have HQ : Hid (X = some (mk 2 (true :: stk))) := by rw [← hX]; exact (bgn_open true stk).trans (if_neg hfull)
      have hd : ((stk.length : Int) == 10000) = false := by simp; omega
      have hne : ¬ (stk.length : Int) = 10000 := by omega
      clear hX
      go_enter Try.func22, Try.ntmps22
      go_wp2
      go_quiet (fail)
      go_wp2_with fail
      go_at_call 28
      refine (push28 B _ t st o dv kv lv hv _ _ true stk (by exact ((HA.out.s8 _).s9 _).raw) (by exact ((HA.out.s8 _).s9 _).stk) HA.out.hBt ⟨_, rfl⟩ ⟨_, rfl⟩ hr).mono ?_
      rintro e w2 ⟨rfl, hp⟩
      obtain ⟨o2, dv2, x2, y2, h2⟩ := At.post (by exact ((HA.out.s8 _).s9 _).drewN _) hp
      have c0 := h2.raw.c0
      have f0 := h2.raw.fz 0
      have HA2 : Hid (At B w0 w2 t st (true :: stk) o2 dv2 kv lv hv (.int .i64 x2) (.int .i64 y2)) := h2
      clear h2 hp
      go_wp2
      go_end0
      refine ⟨rfl, ?_⟩
      rw [HQ.out]
      exact ((HA2.out.s0 1).s0 2).step (mk 2 (true :: stk)) (Ext.plain _ _ _ _ _ (by omega) (by simp) (by simp; omega))
  · have h123' : (c == 123) = false := by simpa using hc
    have h123 := hc
    clear hc
    by_cases hc : c = 91
    · subst hc
      by_cases hfull : stk.length = 10000
      · have HQ : Hid (X = none) := by rw [← hX]; exact (bgn_open false stk).trans (if_pos hfull)
        have hd : ((stk.length : Int) == 10000) = true := by simp; omega
        clear hX
        go_enter Try.func22, Try.ntmps22
        go_wp2
        go_quiet (fail)
        go_wp2
        refine bodyPost_ret (results_none rfl _ _ _) rfl ?_
        refine ⟨rfl, ?_⟩
        rw [HQ.out]
        exact (((HA.out.s8 _).drewN _).s0 18).bad
      · have HQ : Hid (X = some (mk 1 (false :: stk))) := by rw [← hX]; exact (bgn_open false stk).trans (if_neg hfull)
        have hd : ((stk.length : Int) == 10000) = false := by simp; omega
        have hne : ¬ (stk.length : Int) = 10000 := by omega
        clear hX
        go_enter Try.func22, Try.ntmps22
        go_wp2
        go_quiet (fail)
        go_wp2_with fail
        go_at_call 28
        refine (push28 B _ t st o dv kv lv hv _ _ false stk (by exact (HA.out.s8 _).raw) (by exact (HA.out.s8 _).stk) HA.out.hBt ⟨_, rfl⟩ ⟨_, rfl⟩ hr).mono ?_
        rintro e w2 ⟨rfl, hp⟩
        obtain ⟨o2, dv2, x2, y2, h2⟩ := At.post (by exact (HA.out.s8 _).drewN _) hp
        have c0 := h2.raw.c0
        have f0 := h2.raw.fz 0
        have HA2 : Hid (At B w0 w2 t st (false :: stk) o2 dv2 kv lv hv (.int .i64 x2) (.int .i64 y2)) := h2
        clear h2 hp
        go_wp2
        go_end0
        refine ⟨rfl, ?_⟩
        rw [HQ.out]
        exact (HA2.out.s0 1).step (mk 1 (false :: stk)) (Ext.plain _ _ _ _ _ (by omega) (by simp) (by simp; omega))
    · have h91' : (c == 91) = false := by simpa using hc
      have h91 := hc
      clear hc
      by_cases hc : c = 34
      · subst hc
        have HQ : Hid (X = some (inStr stk false)) := by rw [← hX]; exact rfl
        clear hX
        go_enter Try.func22, Try.ntmps22
        go_wp2
        go_end0
        refine ⟨rfl, ?_⟩
        rw [HQ.out]
        exact (((HA.out.s8 _).s0 6).s5 (.bool false)).step (inStr stk false) (Ext.str _ _ _ _ hr)
      · have h34' : (c == 34) = false := by simpa using hc
        have h34 := hc
        clear hc
        by_cases hc : c = 116
        · subst hc
          have HQ : Hid (X = some ⟨9, stk, false, [114, 117, 101], 0⟩) := by rw [← hX]; exact rfl
          clear hX
          go_enter Try.func22, Try.ntmps22
          go_wp2
          go_end0
          refine ⟨rfl, ?_⟩
          rw [HQ.out]
          exact ((((HA.out.s8 _).s9 _).s0 9).s6 (.string { data := #[114, 117, 101] })).step ⟨9, stk, false, [114, 117, 101], 0⟩ (Ext.lit _ _ _ _ _ (by simp [Lft]) hr)
        · have h116' : (c == 116) = false := by simpa using hc
          have h116 := hc
          clear hc
          by_cases hc : c = 102
          · subst hc
            have HQ : Hid (X = some ⟨9, stk, false, [97, 108, 115, 101], 0⟩) := by rw [← hX]; exact rfl
            clear hX
            go_enter Try.func22, Try.ntmps22
            go_wp2
            go_end0
            refine ⟨rfl, ?_⟩
            rw [HQ.out]
            exact ((((HA.out.s8 _).s9 _).s0 9).s6 (.string { data := #[97, 108, 115, 101] })).step ⟨9, stk, false, [97, 108, 115, 101], 0⟩ (Ext.lit _ _ _ _ _ (by simp [Lft]) hr)
          · have h102' : (c == 102) = false := by simpa using hc
            have h102 := hc
            clear hc
            by_cases hc : c = 110
            · subst hc
              have HQ : Hid (X = some ⟨9, stk, false, [117, 108, 108], 0⟩) := by rw [← hX]; exact rfl
              clear hX
              go_enter Try.func22, Try.ntmps22
              go_wp2
              go_end0
              refine ⟨rfl, ?_⟩
              rw [HQ.out]
              exact (((HA.out.s8 _).s0 9).s6 (.string { data := #[117, 108, 108] })).step ⟨9, stk, false, [117, 108, 108], 0⟩ (Ext.lit _ _ _ _ _ (by simp [Lft]) hr)
            · have h110' : (c == 110) = false := by simpa using hc
              have h110 := hc
              clear hc
              by_cases hc : c = 45
              · subst hc
                have HQ : Hid (X = some (mk 10 stk)) := by rw [← hX]; exact rfl
                clear hX
                go_enter Try.func22, Try.ntmps22
                go_wp2
                go_end0
                refine ⟨rfl, ?_⟩
                rw [HQ.out]
                exact ((HA.out.s8 _).s0 10).step (mk 10 stk) (Ext.plain _ _ _ _ _ (by omega) (by simp) hr)
              · have h45' : (c == 45) = false := by simpa using hc
                have h45 := hc
                clear hc
                by_cases hc : c = 48
                · subst hc
                  have HQ : Hid (X = some (mk 11 stk)) := by rw [← hX]; exact rfl
                  clear hX
                  go_enter Try.func22, Try.ntmps22
                  go_wp2
                  go_end0
                  refine ⟨rfl, ?_⟩
                  rw [HQ.out]
                  exact ((HA.out.s8 _).s0 11).step (mk 11 stk) (Ext.plain _ _ _ _ _ (by omega) (by simp) hr)
                · have h48' : (c == 48) = false := by simpa using hc
                  have h48 := hc
                  clear hc
                  by_cases h49 : 49 ≤ c
                  · have h49' : decide (49 ≤ c) = true := by simpa using h49
                    by_cases h57 : c ≤ 57
                    · have h57' : decide (c ≤ 57) = true := by simpa using h57
                      have HQ : Hid (X = some (mk 12 stk)) := by rw [← hX]; simp only [bgn]; rw [if_neg h123, if_neg h91, if_neg h34, if_neg h116, if_neg h102, if_neg h110, if_neg h45, if_neg h48, if_pos ⟨h49, h57⟩]; exact rfl
                      clear hX
                      go_enter Try.func22, Try.ntmps22
                      go_wp2
                      go_end0
                      refine ⟨rfl, ?_⟩
                      rw [HQ.out]
                      exact (((HA.out.s8 _).s0 18).s0 12).step (mk 12 stk) (Ext.plain _ _ _ _ _ (by omega) (by simp) hr)
                    · have h57' : decide (c ≤ 57) = false := by simpa using h57
                      have HQ : Hid (X = none) := by rw [← hX]; simp only [bgn]; rw [if_neg h123, if_neg h91, if_neg h34, if_neg h116, if_neg h102, if_neg h110, if_neg h45, if_neg h48, if_neg (by omega)]; exact rfl
                      clear hX
                      go_enter Try.func22, Try.ntmps22
                      go_wp2
                      go_end0
                      refine ⟨rfl, ?_⟩
                      rw [HQ.out]
                      exact ((HA.out.s8 _).s0 18).bad
                  · have h49' : decide (49 ≤ c) = false := by simpa using h49
                    have HQ : Hid (X = none) := by rw [← hX]; simp only [bgn]; rw [if_neg h123, if_neg h91, if_neg h34, if_neg h116, if_neg h102, if_neg h110, if_neg h45, if_neg h48, if_neg (by omega)]; exact rfl
                    clear hX
                    go_enter Try.func22, Try.ntmps22
                    go_wp2
                    go_end0
                    refine ⟨rfl, ?_⟩
                    rw [HQ.out]
                    exact ((HA.out.s8 _).s0 18).bad
end Go.Proofs.Qxb6612399a
