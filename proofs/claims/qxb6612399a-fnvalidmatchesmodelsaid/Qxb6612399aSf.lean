/- number, walked. -/
import Derived.Test.Qxb6612399aSe
namespace Go.Proofs.Qxb6612399a
open Go.RowKit
set_option linter.unusedVariables false
set_option linter.unusedSimpArgs false

theorem ifdT (x : Int) (w : World) : Calls Try.prog 30 #[.bool true, .int .u8 x] w fun e w' => e = .returned (.int .u8 x) ∧ w' = w := ifd30 true x w
theorem ifdF (x : Int) (w : World) : Calls Try.prog 30 #[.bool false, .int .u8 x] w fun e w' => e = .returned (.int .u8 18) ∧ w' = w := ifd30 false x w

/-- a number's step: the byte is read, or it is handed back with the number closed -/
def NumP (B : Nat) (w0 : World) (t : Nat) (s : S) (c : Int) (i : Nat) (e : Ending) (w' : World) : Prop :=
  (e = .returned (.int .i64 (i : Int)) ∧ StepP B w0 t (nxt s c) w') ∨ (e = .returned (.int .i64 ((i : Int) - 1)) ∧ nxt s c = flw s.stk c ∧ Sc B w0 w' t (mk 5 s.stk))

set_option maxRecDepth 10000 in
set_option maxHeartbeats 4000000 in
theorem num26_10 (B : Nat) (w0 w : World) (t : Nat) (stk : List Bool) (key : Bool) (left : List Int) (hex : Nat) (c : Int) (i : Nat) (o : Nat) (dv kv lv hv : Value) (x y : Int) (hi : i ≤ 1048576)
    (h : At B w0 w t 10 stk o dv kv lv hv (.int .i64 x) (.int .i64 y)) (he : Ext ⟨10, stk, key, left, hex⟩ kv lv hv) (hr : stk.length ≤ 10000) :
    Calls Try.prog 26 #[.pointer (some ⟨t, 0, none⟩), .int .u8 c, .int .i64 i] w (NumP B w0 t ⟨10, stk, key, left, hex⟩ c i) := by
  have c0 := h.raw.c0
  have f0 := h.raw.fz 0
  have HA : Hid (At B w0 w t 10 stk o dv kv lv hv (.int .i64 x) (.int .i64 y)) := h
  have HX : Hid (Ext ⟨10, stk, key, left, hex⟩ kv lv hv) := he
  clear h he
  by_cases h46 : c = 46
  · subst h46
    have HQ : Hid (nxt ⟨10, stk, key, left, hex⟩ 46 = none) := by show nxt _ _ = _; simp [nxt, isDg]
    go_enter Try.func26, Try.ntmps26
    go_wp2
    go_ret
    refine .inl ⟨rfl, ?_⟩
    rw [HQ.out]
    exact (HA.out.s0 18).bad
  · have h46' : (c == 46) = false := by simpa using h46
    by_cases h101 : c = 101
    · subst h101
      have HQ : Hid (nxt ⟨10, stk, key, left, hex⟩ 101 = none) := by show nxt _ _ = _; simp [nxt, isDg]
      go_enter Try.func26, Try.ntmps26
      go_wp2
      go_ret
      refine .inl ⟨rfl, ?_⟩
      rw [HQ.out]
      exact (HA.out.s0 18).bad
    · have h101' : (c == 101) = false := by simpa using h101
      by_cases h69 : c = 69
      · subst h69
        have HQ : Hid (nxt ⟨10, stk, key, left, hex⟩ 69 = none) := by show nxt _ _ = _; simp [nxt, isDg]
        go_enter Try.func26, Try.ntmps26
        go_wp2
        go_ret
        refine .inl ⟨rfl, ?_⟩
        rw [HQ.out]
        exact (HA.out.s0 18).bad
      · have h69' : (c == 69) = false := by simpa using h69
        by_cases h43 : c = 43
        · subst h43
          have HQ : Hid (nxt ⟨10, stk, key, left, hex⟩ 43 = none) := by show nxt _ _ = _; simp [nxt, isDg]
          go_enter Try.func26, Try.ntmps26
          go_wp2
          go_ret
          refine .inl ⟨rfl, ?_⟩
          rw [HQ.out]
          exact (HA.out.s0 18).bad
        · have h43' : (c == 43) = false := by simpa using h43
          by_cases h45 : c = 45
          · subst h45
            have HQ : Hid (nxt ⟨10, stk, key, left, hex⟩ 45 = none) := by show nxt _ _ = _; simp [nxt, isDg]
            go_enter Try.func26, Try.ntmps26
            go_wp2
            go_ret
            refine .inl ⟨rfl, ?_⟩
            rw [HQ.out]
            exact (HA.out.s0 18).bad
          · have h45' : (c == 45) = false := by simpa using h45
            by_cases h48 : c = 48
            · subst h48
              have HQ : Hid (nxt ⟨10, stk, key, left, hex⟩ 48 = some (mk 11 stk)) := by show nxt _ _ = _; simp [nxt, isDg]
              go_enter Try.func26, Try.ntmps26
              go_wp2
              go_ret
              refine .inl ⟨rfl, ?_⟩
              rw [HQ.out]
              exact (HA.out.s0 11).step (mk 11 stk) (Ext.plain _ _ _ _ _ (by omega) (by simp) hr)
            · have h48' : (c == 48) = false := by simpa using h48
              cases hdg : isDg c
              · by_cases h1 : 48 ≤ c
                · have h1' : decide (48 ≤ c) = true := by simpa using h1
                  have h2 : ¬ c ≤ 57 := by intro h2; simp [isDg, h1, h2] at hdg
                  have h2' : decide (c ≤ 57) = false := by simpa using h2
                  have HQ : Hid (nxt ⟨10, stk, key, left, hex⟩ c = none) := by show nxt _ _ = _; simp [nxt, hdg, h48, h46, h101, h69, h43, h45]
                  go_enter Try.func26, Try.ntmps26
                  go_wp2
                  go_ret
                  refine .inl ⟨rfl, ?_⟩
                  rw [HQ.out]
                  exact (HA.out.s0 18).bad
                · have h1' : decide (48 ≤ c) = false := by simpa using h1
                  have HQ : Hid (nxt ⟨10, stk, key, left, hex⟩ c = none) := by show nxt _ _ = _; simp [nxt, hdg, h48, h46, h101, h69, h43, h45]
                  go_enter Try.func26, Try.ntmps26
                  go_wp2
                  go_ret
                  refine .inl ⟨rfl, ?_⟩
                  rw [HQ.out]
                  exact (HA.out.s0 18).bad
              · have h9 : 48 ≤ c ∧ c ≤ 57 := by simpa [isDg] using hdg
                have h1' : decide (48 ≤ c) = true := by simpa using h9.1
                have h2' : decide (c ≤ 57) = true := by simpa using h9.2
                have HQ : Hid (nxt ⟨10, stk, key, left, hex⟩ c = some (mk 12 stk)) := by show nxt _ _ = _; simp [nxt, hdg, h48, h46, h101, h69, h43, h45]
                go_enter Try.func26, Try.ntmps26
                go_wp2
                go_ret
                refine .inl ⟨rfl, ?_⟩
                rw [HQ.out]
                exact (HA.out.s0 12).step (mk 12 stk) (Ext.plain _ _ _ _ _ (by omega) (by simp) hr)

set_option maxRecDepth 10000 in
set_option maxHeartbeats 4000000 in
theorem num26_11 (B : Nat) (w0 w : World) (t : Nat) (stk : List Bool) (key : Bool) (left : List Int) (hex : Nat) (c : Int) (i : Nat) (o : Nat) (dv kv lv hv : Value) (x y : Int) (hi : i ≤ 1048576)
    (h : At B w0 w t 11 stk o dv kv lv hv (.int .i64 x) (.int .i64 y)) (he : Ext ⟨11, stk, key, left, hex⟩ kv lv hv) (hr : stk.length ≤ 10000) :
    Calls Try.prog 26 #[.pointer (some ⟨t, 0, none⟩), .int .u8 c, .int .i64 i] w (NumP B w0 t ⟨11, stk, key, left, hex⟩ c i) := by
  have c0 := h.raw.c0
  have f0 := h.raw.fz 0
  have HA : Hid (At B w0 w t 11 stk o dv kv lv hv (.int .i64 x) (.int .i64 y)) := h
  have HX : Hid (Ext ⟨11, stk, key, left, hex⟩ kv lv hv) := he
  clear h he
  by_cases h46 : c = 46
  · subst h46
    have HQ : Hid (nxt ⟨11, stk, key, left, hex⟩ 46 = some (mk 13 stk)) := by show nxt _ _ = _; simp [nxt, isDg]
    go_enter Try.func26, Try.ntmps26
    go_wp2
    go_ret
    refine .inl ⟨rfl, ?_⟩
    rw [HQ.out]
    exact (HA.out.s0 13).step (mk 13 stk) (Ext.plain _ _ _ _ _ (by omega) (by simp) hr)
  · have h46' : (c == 46) = false := by simpa using h46
    by_cases h101 : c = 101
    · subst h101
      have HQ : Hid (nxt ⟨11, stk, key, left, hex⟩ 101 = some (mk 15 stk)) := by show nxt _ _ = _; simp [nxt, isDg]
      go_enter Try.func26, Try.ntmps26
      go_wp2
      go_ret
      refine .inl ⟨rfl, ?_⟩
      rw [HQ.out]
      exact (HA.out.s0 15).step (mk 15 stk) (Ext.plain _ _ _ _ _ (by omega) (by simp) hr)
    · have h101' : (c == 101) = false := by simpa using h101
      by_cases h69 : c = 69
      · subst h69
        have HQ : Hid (nxt ⟨11, stk, key, left, hex⟩ 69 = some (mk 15 stk)) := by show nxt _ _ = _; simp [nxt, isDg]
        go_enter Try.func26, Try.ntmps26
        go_wp2
        go_ret
        refine .inl ⟨rfl, ?_⟩
        rw [HQ.out]
        exact (HA.out.s0 15).step (mk 15 stk) (Ext.plain _ _ _ _ _ (by omega) (by simp) hr)
      · have h69' : (c == 69) = false := by simpa using h69
        by_cases h43 : c = 43
        · subst h43
          have HQ : Hid (nxt ⟨11, stk, key, left, hex⟩ 43 = flw stk 43) := by show nxt _ _ = _; simp [nxt, isDg]
          go_enter Try.func26, Try.ntmps26
          go_wp2
          go_ret
          exact .inr ⟨rfl, HQ.out, (HA.out.s0 5).step (mk 5 stk) (Ext.plain _ _ _ _ _ (by omega) (by simp) hr)⟩
        · have h43' : (c == 43) = false := by simpa using h43
          by_cases h45 : c = 45
          · subst h45
            have HQ : Hid (nxt ⟨11, stk, key, left, hex⟩ 45 = flw stk 45) := by show nxt _ _ = _; simp [nxt, isDg]
            go_enter Try.func26, Try.ntmps26
            go_wp2
            go_ret
            exact .inr ⟨rfl, HQ.out, (HA.out.s0 5).step (mk 5 stk) (Ext.plain _ _ _ _ _ (by omega) (by simp) hr)⟩
          · have h45' : (c == 45) = false := by simpa using h45
            by_cases h48 : c = 48
            · subst h48
              have HQ : Hid (nxt ⟨11, stk, key, left, hex⟩ 48 = flw stk 48) := by show nxt _ _ = _; simp [nxt, isDg]
              go_enter Try.func26, Try.ntmps26
              go_wp2
              go_ret
              exact .inr ⟨rfl, HQ.out, (HA.out.s0 5).step (mk 5 stk) (Ext.plain _ _ _ _ _ (by omega) (by simp) hr)⟩
            · have h48' : (c == 48) = false := by simpa using h48
              cases hdg : isDg c
              · by_cases h1 : 48 ≤ c
                · have h1' : decide (48 ≤ c) = true := by simpa using h1
                  have h2 : ¬ c ≤ 57 := by intro h2; simp [isDg, h1, h2] at hdg
                  have h2' : decide (c ≤ 57) = false := by simpa using h2
                  have HQ : Hid (nxt ⟨11, stk, key, left, hex⟩ c = flw stk c) := by show nxt _ _ = _; simp [nxt, hdg, h48, h46, h101, h69, h43, h45]
                  go_enter Try.func26, Try.ntmps26
                  go_wp2
                  go_ret
                  exact .inr ⟨rfl, HQ.out, (HA.out.s0 5).step (mk 5 stk) (Ext.plain _ _ _ _ _ (by omega) (by simp) hr)⟩
                · have h1' : decide (48 ≤ c) = false := by simpa using h1
                  have HQ : Hid (nxt ⟨11, stk, key, left, hex⟩ c = flw stk c) := by show nxt _ _ = _; simp [nxt, hdg, h48, h46, h101, h69, h43, h45]
                  go_enter Try.func26, Try.ntmps26
                  go_wp2
                  go_ret
                  exact .inr ⟨rfl, HQ.out, (HA.out.s0 5).step (mk 5 stk) (Ext.plain _ _ _ _ _ (by omega) (by simp) hr)⟩
              · have h9 : 48 ≤ c ∧ c ≤ 57 := by simpa [isDg] using hdg
                have h1' : decide (48 ≤ c) = true := by simpa using h9.1
                have h2' : decide (c ≤ 57) = true := by simpa using h9.2
                have HQ : Hid (nxt ⟨11, stk, key, left, hex⟩ c = flw stk c) := by show nxt _ _ = _; simp [nxt, hdg, h48, h46, h101, h69, h43, h45]
                go_enter Try.func26, Try.ntmps26
                go_wp2
                go_ret
                exact .inr ⟨rfl, HQ.out, (HA.out.s0 5).step (mk 5 stk) (Ext.plain _ _ _ _ _ (by omega) (by simp) hr)⟩

set_option maxRecDepth 10000 in
set_option maxHeartbeats 4000000 in
theorem num26_12 (B : Nat) (w0 w : World) (t : Nat) (stk : List Bool) (key : Bool) (left : List Int) (hex : Nat) (c : Int) (i : Nat) (o : Nat) (dv kv lv hv : Value) (x y : Int) (hi : i ≤ 1048576)
    (h : At B w0 w t 12 stk o dv kv lv hv (.int .i64 x) (.int .i64 y)) (he : Ext ⟨12, stk, key, left, hex⟩ kv lv hv) (hr : stk.length ≤ 10000) :
    Calls Try.prog 26 #[.pointer (some ⟨t, 0, none⟩), .int .u8 c, .int .i64 i] w (NumP B w0 t ⟨12, stk, key, left, hex⟩ c i) := by
  have c0 := h.raw.c0
  have f0 := h.raw.fz 0
  have HA : Hid (At B w0 w t 12 stk o dv kv lv hv (.int .i64 x) (.int .i64 y)) := h
  have HX : Hid (Ext ⟨12, stk, key, left, hex⟩ kv lv hv) := he
  clear h he
  by_cases h46 : c = 46
  · subst h46
    have HQ : Hid (nxt ⟨12, stk, key, left, hex⟩ 46 = some (mk 13 stk)) := by show nxt _ _ = _; simp [nxt, isDg]
    go_enter Try.func26, Try.ntmps26
    go_wp2
    go_ret
    refine .inl ⟨rfl, ?_⟩
    rw [HQ.out]
    exact (HA.out.s0 13).step (mk 13 stk) (Ext.plain _ _ _ _ _ (by omega) (by simp) hr)
  · have h46' : (c == 46) = false := by simpa using h46
    by_cases h101 : c = 101
    · subst h101
      have HQ : Hid (nxt ⟨12, stk, key, left, hex⟩ 101 = some (mk 15 stk)) := by show nxt _ _ = _; simp [nxt, isDg]
      go_enter Try.func26, Try.ntmps26
      go_wp2
      go_ret
      refine .inl ⟨rfl, ?_⟩
      rw [HQ.out]
      exact (HA.out.s0 15).step (mk 15 stk) (Ext.plain _ _ _ _ _ (by omega) (by simp) hr)
    · have h101' : (c == 101) = false := by simpa using h101
      by_cases h69 : c = 69
      · subst h69
        have HQ : Hid (nxt ⟨12, stk, key, left, hex⟩ 69 = some (mk 15 stk)) := by show nxt _ _ = _; simp [nxt, isDg]
        go_enter Try.func26, Try.ntmps26
        go_wp2
        go_ret
        refine .inl ⟨rfl, ?_⟩
        rw [HQ.out]
        exact (HA.out.s0 15).step (mk 15 stk) (Ext.plain _ _ _ _ _ (by omega) (by simp) hr)
      · have h69' : (c == 69) = false := by simpa using h69
        by_cases h43 : c = 43
        · subst h43
          have HQ : Hid (nxt ⟨12, stk, key, left, hex⟩ 43 = flw stk 43) := by show nxt _ _ = _; simp [nxt, isDg]
          go_enter Try.func26, Try.ntmps26
          go_wp2
          go_ret
          exact .inr ⟨rfl, HQ.out, (HA.out.s0 5).step (mk 5 stk) (Ext.plain _ _ _ _ _ (by omega) (by simp) hr)⟩
        · have h43' : (c == 43) = false := by simpa using h43
          by_cases h45 : c = 45
          · subst h45
            have HQ : Hid (nxt ⟨12, stk, key, left, hex⟩ 45 = flw stk 45) := by show nxt _ _ = _; simp [nxt, isDg]
            go_enter Try.func26, Try.ntmps26
            go_wp2
            go_ret
            exact .inr ⟨rfl, HQ.out, (HA.out.s0 5).step (mk 5 stk) (Ext.plain _ _ _ _ _ (by omega) (by simp) hr)⟩
          · have h45' : (c == 45) = false := by simpa using h45
            by_cases h48 : c = 48
            · subst h48
              have HQ : Hid (nxt ⟨12, stk, key, left, hex⟩ 48 = some ⟨12, stk, key, left, hex⟩) := by show nxt _ _ = _; simp [nxt, isDg]
              go_enter Try.func26, Try.ntmps26
              go_wp2
              go_ret
              refine .inl ⟨rfl, ?_⟩
              rw [HQ.out]
              exact HA.out.step ⟨12, stk, key, left, hex⟩ HX.out
            · have h48' : (c == 48) = false := by simpa using h48
              cases hdg : isDg c
              · by_cases h1 : 48 ≤ c
                · have h1' : decide (48 ≤ c) = true := by simpa using h1
                  have h2 : ¬ c ≤ 57 := by intro h2; simp [isDg, h1, h2] at hdg
                  have h2' : decide (c ≤ 57) = false := by simpa using h2
                  have HQ : Hid (nxt ⟨12, stk, key, left, hex⟩ c = flw stk c) := by show nxt _ _ = _; simp [nxt, hdg, h48, h46, h101, h69, h43, h45]
                  go_enter Try.func26, Try.ntmps26
                  go_wp2
                  go_ret
                  exact .inr ⟨rfl, HQ.out, (HA.out.s0 5).step (mk 5 stk) (Ext.plain _ _ _ _ _ (by omega) (by simp) hr)⟩
                · have h1' : decide (48 ≤ c) = false := by simpa using h1
                  have HQ : Hid (nxt ⟨12, stk, key, left, hex⟩ c = flw stk c) := by show nxt _ _ = _; simp [nxt, hdg, h48, h46, h101, h69, h43, h45]
                  go_enter Try.func26, Try.ntmps26
                  go_wp2
                  go_ret
                  exact .inr ⟨rfl, HQ.out, (HA.out.s0 5).step (mk 5 stk) (Ext.plain _ _ _ _ _ (by omega) (by simp) hr)⟩
              · have h9 : 48 ≤ c ∧ c ≤ 57 := by simpa [isDg] using hdg
                have h1' : decide (48 ≤ c) = true := by simpa using h9.1
                have h2' : decide (c ≤ 57) = true := by simpa using h9.2
                have HQ : Hid (nxt ⟨12, stk, key, left, hex⟩ c = some ⟨12, stk, key, left, hex⟩) := by show nxt _ _ = _; simp [nxt, hdg, h48, h46, h101, h69, h43, h45]
                go_enter Try.func26, Try.ntmps26
                go_wp2
                go_ret
                refine .inl ⟨rfl, ?_⟩
                rw [HQ.out]
                exact HA.out.step ⟨12, stk, key, left, hex⟩ HX.out

set_option maxRecDepth 10000 in
set_option maxHeartbeats 4000000 in
theorem num26_13 (B : Nat) (w0 w : World) (t : Nat) (stk : List Bool) (key : Bool) (left : List Int) (hex : Nat) (c : Int) (i : Nat) (o : Nat) (dv kv lv hv : Value) (x y : Int) (hi : i ≤ 1048576)
    (h : At B w0 w t 13 stk o dv kv lv hv (.int .i64 x) (.int .i64 y)) (he : Ext ⟨13, stk, key, left, hex⟩ kv lv hv) (hr : stk.length ≤ 10000) :
    Calls Try.prog 26 #[.pointer (some ⟨t, 0, none⟩), .int .u8 c, .int .i64 i] w (NumP B w0 t ⟨13, stk, key, left, hex⟩ c i) := by
  have c0 := h.raw.c0
  have f0 := h.raw.fz 0
  have HA : Hid (At B w0 w t 13 stk o dv kv lv hv (.int .i64 x) (.int .i64 y)) := h
  have HX : Hid (Ext ⟨13, stk, key, left, hex⟩ kv lv hv) := he
  clear h he
  by_cases h46 : c = 46
  · subst h46
    have HQ : Hid (nxt ⟨13, stk, key, left, hex⟩ 46 = none) := by show nxt _ _ = _; simp [nxt, isDg]
    go_enter Try.func26, Try.ntmps26
    go_wp2_with fail
    go_at_call 30
    refine (ifdF _ _).mono ?_
    rintro e w' ⟨rfl, hw'⟩
    rw [hw']
    clear hw' w'
    go_wp2
    go_ret
    refine .inl ⟨rfl, ?_⟩
    rw [HQ.out]
    exact (HA.out.s0 18).bad
  · have h46' : (c == 46) = false := by simpa using h46
    by_cases h101 : c = 101
    · subst h101
      have HQ : Hid (nxt ⟨13, stk, key, left, hex⟩ 101 = none) := by show nxt _ _ = _; simp [nxt, isDg]
      go_enter Try.func26, Try.ntmps26
      go_wp2_with fail
      go_at_call 30
      refine (ifdF _ _).mono ?_
      rintro e w' ⟨rfl, hw'⟩
      rw [hw']
      clear hw' w'
      go_wp2
      go_ret
      refine .inl ⟨rfl, ?_⟩
      rw [HQ.out]
      exact (HA.out.s0 18).bad
    · have h101' : (c == 101) = false := by simpa using h101
      by_cases h69 : c = 69
      · subst h69
        have HQ : Hid (nxt ⟨13, stk, key, left, hex⟩ 69 = none) := by show nxt _ _ = _; simp [nxt, isDg]
        go_enter Try.func26, Try.ntmps26
        go_wp2_with fail
        go_at_call 30
        refine (ifdF _ _).mono ?_
        rintro e w' ⟨rfl, hw'⟩
        rw [hw']
        clear hw' w'
        go_wp2
        go_ret
        refine .inl ⟨rfl, ?_⟩
        rw [HQ.out]
        exact (HA.out.s0 18).bad
      · have h69' : (c == 69) = false := by simpa using h69
        by_cases h43 : c = 43
        · subst h43
          have HQ : Hid (nxt ⟨13, stk, key, left, hex⟩ 43 = none) := by show nxt _ _ = _; simp [nxt, isDg]
          go_enter Try.func26, Try.ntmps26
          go_wp2_with fail
          go_at_call 30
          refine (ifdF _ _).mono ?_
          rintro e w' ⟨rfl, hw'⟩
          rw [hw']
          clear hw' w'
          go_wp2
          go_ret
          refine .inl ⟨rfl, ?_⟩
          rw [HQ.out]
          exact (HA.out.s0 18).bad
        · have h43' : (c == 43) = false := by simpa using h43
          by_cases h45 : c = 45
          · subst h45
            have HQ : Hid (nxt ⟨13, stk, key, left, hex⟩ 45 = none) := by show nxt _ _ = _; simp [nxt, isDg]
            go_enter Try.func26, Try.ntmps26
            go_wp2_with fail
            go_at_call 30
            refine (ifdF _ _).mono ?_
            rintro e w' ⟨rfl, hw'⟩
            rw [hw']
            clear hw' w'
            go_wp2
            go_ret
            refine .inl ⟨rfl, ?_⟩
            rw [HQ.out]
            exact (HA.out.s0 18).bad
          · have h45' : (c == 45) = false := by simpa using h45
            by_cases h48 : c = 48
            · subst h48
              have HQ : Hid (nxt ⟨13, stk, key, left, hex⟩ 48 = some (mk 14 stk)) := by show nxt _ _ = _; simp [nxt, isDg]
              go_enter Try.func26, Try.ntmps26
              go_wp2_with fail
              go_at_call 30
              refine (ifdT _ _).mono ?_
              rintro e w' ⟨rfl, hw'⟩
              rw [hw']
              clear hw' w'
              go_wp2
              go_ret
              refine .inl ⟨rfl, ?_⟩
              rw [HQ.out]
              exact (HA.out.s0 14).step (mk 14 stk) (Ext.plain _ _ _ _ _ (by omega) (by simp) hr)
            · have h48' : (c == 48) = false := by simpa using h48
              cases hdg : isDg c
              · by_cases h1 : 48 ≤ c
                · have h1' : decide (48 ≤ c) = true := by simpa using h1
                  have h2 : ¬ c ≤ 57 := by intro h2; simp [isDg, h1, h2] at hdg
                  have h2' : decide (c ≤ 57) = false := by simpa using h2
                  have HQ : Hid (nxt ⟨13, stk, key, left, hex⟩ c = none) := by show nxt _ _ = _; simp [nxt, hdg, h48, h46, h101, h69, h43, h45]
                  go_enter Try.func26, Try.ntmps26
                  go_wp2_with fail
                  go_at_call 30
                  refine (ifdF _ _).mono ?_
                  rintro e w' ⟨rfl, hw'⟩
                  rw [hw']
                  clear hw' w'
                  go_wp2
                  go_ret
                  refine .inl ⟨rfl, ?_⟩
                  rw [HQ.out]
                  exact (HA.out.s0 18).bad
                · have h1' : decide (48 ≤ c) = false := by simpa using h1
                  have HQ : Hid (nxt ⟨13, stk, key, left, hex⟩ c = none) := by show nxt _ _ = _; simp [nxt, hdg, h48, h46, h101, h69, h43, h45]
                  go_enter Try.func26, Try.ntmps26
                  go_wp2_with fail
                  go_at_call 30
                  refine (ifdF _ _).mono ?_
                  rintro e w' ⟨rfl, hw'⟩
                  rw [hw']
                  clear hw' w'
                  go_wp2
                  go_ret
                  refine .inl ⟨rfl, ?_⟩
                  rw [HQ.out]
                  exact (HA.out.s0 18).bad
              · have h9 : 48 ≤ c ∧ c ≤ 57 := by simpa [isDg] using hdg
                have h1' : decide (48 ≤ c) = true := by simpa using h9.1
                have h2' : decide (c ≤ 57) = true := by simpa using h9.2
                have HQ : Hid (nxt ⟨13, stk, key, left, hex⟩ c = some (mk 14 stk)) := by show nxt _ _ = _; simp [nxt, hdg, h48, h46, h101, h69, h43, h45]
                go_enter Try.func26, Try.ntmps26
                go_wp2_with fail
                go_at_call 30
                refine (ifdT _ _).mono ?_
                rintro e w' ⟨rfl, hw'⟩
                rw [hw']
                clear hw' w'
                go_wp2
                go_ret
                refine .inl ⟨rfl, ?_⟩
                rw [HQ.out]
                exact (HA.out.s0 14).step (mk 14 stk) (Ext.plain _ _ _ _ _ (by omega) (by simp) hr)

set_option maxRecDepth 10000 in
set_option maxHeartbeats 4000000 in
theorem num26_14 (B : Nat) (w0 w : World) (t : Nat) (stk : List Bool) (key : Bool) (left : List Int) (hex : Nat) (c : Int) (i : Nat) (o : Nat) (dv kv lv hv : Value) (x y : Int) (hi : i ≤ 1048576)
    (h : At B w0 w t 14 stk o dv kv lv hv (.int .i64 x) (.int .i64 y)) (he : Ext ⟨14, stk, key, left, hex⟩ kv lv hv) (hr : stk.length ≤ 10000) :
    Calls Try.prog 26 #[.pointer (some ⟨t, 0, none⟩), .int .u8 c, .int .i64 i] w (NumP B w0 t ⟨14, stk, key, left, hex⟩ c i) := by
  have c0 := h.raw.c0
  have f0 := h.raw.fz 0
  have HA : Hid (At B w0 w t 14 stk o dv kv lv hv (.int .i64 x) (.int .i64 y)) := h
  have HX : Hid (Ext ⟨14, stk, key, left, hex⟩ kv lv hv) := he
  clear h he
  by_cases h46 : c = 46
  · subst h46
    have HQ : Hid (nxt ⟨14, stk, key, left, hex⟩ 46 = flw stk 46) := by show nxt _ _ = _; simp [nxt, isDg]
    go_enter Try.func26, Try.ntmps26
    go_wp2
    go_ret
    exact .inr ⟨rfl, HQ.out, (HA.out.s0 5).step (mk 5 stk) (Ext.plain _ _ _ _ _ (by omega) (by simp) hr)⟩
  · have h46' : (c == 46) = false := by simpa using h46
    by_cases h101 : c = 101
    · subst h101
      have HQ : Hid (nxt ⟨14, stk, key, left, hex⟩ 101 = some (mk 15 stk)) := by show nxt _ _ = _; simp [nxt, isDg]
      go_enter Try.func26, Try.ntmps26
      go_wp2
      go_ret
      refine .inl ⟨rfl, ?_⟩
      rw [HQ.out]
      exact (HA.out.s0 15).step (mk 15 stk) (Ext.plain _ _ _ _ _ (by omega) (by simp) hr)
    · have h101' : (c == 101) = false := by simpa using h101
      by_cases h69 : c = 69
      · subst h69
        have HQ : Hid (nxt ⟨14, stk, key, left, hex⟩ 69 = some (mk 15 stk)) := by show nxt _ _ = _; simp [nxt, isDg]
        go_enter Try.func26, Try.ntmps26
        go_wp2
        go_ret
        refine .inl ⟨rfl, ?_⟩
        rw [HQ.out]
        exact (HA.out.s0 15).step (mk 15 stk) (Ext.plain _ _ _ _ _ (by omega) (by simp) hr)
      · have h69' : (c == 69) = false := by simpa using h69
        by_cases h43 : c = 43
        · subst h43
          have HQ : Hid (nxt ⟨14, stk, key, left, hex⟩ 43 = flw stk 43) := by show nxt _ _ = _; simp [nxt, isDg]
          go_enter Try.func26, Try.ntmps26
          go_wp2
          go_ret
          exact .inr ⟨rfl, HQ.out, (HA.out.s0 5).step (mk 5 stk) (Ext.plain _ _ _ _ _ (by omega) (by simp) hr)⟩
        · have h43' : (c == 43) = false := by simpa using h43
          by_cases h45 : c = 45
          · subst h45
            have HQ : Hid (nxt ⟨14, stk, key, left, hex⟩ 45 = flw stk 45) := by show nxt _ _ = _; simp [nxt, isDg]
            go_enter Try.func26, Try.ntmps26
            go_wp2
            go_ret
            exact .inr ⟨rfl, HQ.out, (HA.out.s0 5).step (mk 5 stk) (Ext.plain _ _ _ _ _ (by omega) (by simp) hr)⟩
          · have h45' : (c == 45) = false := by simpa using h45
            by_cases h48 : c = 48
            · subst h48
              have HQ : Hid (nxt ⟨14, stk, key, left, hex⟩ 48 = some ⟨14, stk, key, left, hex⟩) := by show nxt _ _ = _; simp [nxt, isDg]
              go_enter Try.func26, Try.ntmps26
              go_wp2
              go_ret
              refine .inl ⟨rfl, ?_⟩
              rw [HQ.out]
              exact HA.out.step ⟨14, stk, key, left, hex⟩ HX.out
            · have h48' : (c == 48) = false := by simpa using h48
              cases hdg : isDg c
              · by_cases h1 : 48 ≤ c
                · have h1' : decide (48 ≤ c) = true := by simpa using h1
                  have h2 : ¬ c ≤ 57 := by intro h2; simp [isDg, h1, h2] at hdg
                  have h2' : decide (c ≤ 57) = false := by simpa using h2
                  have HQ : Hid (nxt ⟨14, stk, key, left, hex⟩ c = flw stk c) := by show nxt _ _ = _; simp [nxt, hdg, h48, h46, h101, h69, h43, h45]
                  go_enter Try.func26, Try.ntmps26
                  go_wp2
                  go_ret
                  exact .inr ⟨rfl, HQ.out, (HA.out.s0 5).step (mk 5 stk) (Ext.plain _ _ _ _ _ (by omega) (by simp) hr)⟩
                · have h1' : decide (48 ≤ c) = false := by simpa using h1
                  have HQ : Hid (nxt ⟨14, stk, key, left, hex⟩ c = flw stk c) := by show nxt _ _ = _; simp [nxt, hdg, h48, h46, h101, h69, h43, h45]
                  go_enter Try.func26, Try.ntmps26
                  go_wp2
                  go_ret
                  exact .inr ⟨rfl, HQ.out, (HA.out.s0 5).step (mk 5 stk) (Ext.plain _ _ _ _ _ (by omega) (by simp) hr)⟩
              · have h9 : 48 ≤ c ∧ c ≤ 57 := by simpa [isDg] using hdg
                have h1' : decide (48 ≤ c) = true := by simpa using h9.1
                have h2' : decide (c ≤ 57) = true := by simpa using h9.2
                have HQ : Hid (nxt ⟨14, stk, key, left, hex⟩ c = some ⟨14, stk, key, left, hex⟩) := by show nxt _ _ = _; simp [nxt, hdg, h48, h46, h101, h69, h43, h45]
                go_enter Try.func26, Try.ntmps26
                go_wp2
                go_ret
                refine .inl ⟨rfl, ?_⟩
                rw [HQ.out]
                exact HA.out.step ⟨14, stk, key, left, hex⟩ HX.out

set_option maxRecDepth 10000 in
set_option maxHeartbeats 4000000 in
theorem num26_15 (B : Nat) (w0 w : World) (t : Nat) (stk : List Bool) (key : Bool) (left : List Int) (hex : Nat) (c : Int) (i : Nat) (o : Nat) (dv kv lv hv : Value) (x y : Int) (hi : i ≤ 1048576)
    (h : At B w0 w t 15 stk o dv kv lv hv (.int .i64 x) (.int .i64 y)) (he : Ext ⟨15, stk, key, left, hex⟩ kv lv hv) (hr : stk.length ≤ 10000) :
    Calls Try.prog 26 #[.pointer (some ⟨t, 0, none⟩), .int .u8 c, .int .i64 i] w (NumP B w0 t ⟨15, stk, key, left, hex⟩ c i) := by
  have c0 := h.raw.c0
  have f0 := h.raw.fz 0
  have HA : Hid (At B w0 w t 15 stk o dv kv lv hv (.int .i64 x) (.int .i64 y)) := h
  have HX : Hid (Ext ⟨15, stk, key, left, hex⟩ kv lv hv) := he
  clear h he
  by_cases h46 : c = 46
  · subst h46
    have HQ : Hid (nxt ⟨15, stk, key, left, hex⟩ 46 = none) := by show nxt _ _ = _; simp [nxt, isDg]
    go_enter Try.func26, Try.ntmps26
    go_wp2_with fail
    go_at_call 30
    refine (ifdF _ _).mono ?_
    rintro e w' ⟨rfl, hw'⟩
    rw [hw']
    clear hw' w'
    go_wp2
    go_ret
    refine .inl ⟨rfl, ?_⟩
    rw [HQ.out]
    exact (HA.out.s0 18).bad
  · have h46' : (c == 46) = false := by simpa using h46
    by_cases h101 : c = 101
    · subst h101
      have HQ : Hid (nxt ⟨15, stk, key, left, hex⟩ 101 = none) := by show nxt _ _ = _; simp [nxt, isDg]
      go_enter Try.func26, Try.ntmps26
      go_wp2_with fail
      go_at_call 30
      refine (ifdF _ _).mono ?_
      rintro e w' ⟨rfl, hw'⟩
      rw [hw']
      clear hw' w'
      go_wp2
      go_ret
      refine .inl ⟨rfl, ?_⟩
      rw [HQ.out]
      exact (HA.out.s0 18).bad
    · have h101' : (c == 101) = false := by simpa using h101
      by_cases h69 : c = 69
      · subst h69
        have HQ : Hid (nxt ⟨15, stk, key, left, hex⟩ 69 = none) := by show nxt _ _ = _; simp [nxt, isDg]
        go_enter Try.func26, Try.ntmps26
        go_wp2_with fail
        go_at_call 30
        refine (ifdF _ _).mono ?_
        rintro e w' ⟨rfl, hw'⟩
        rw [hw']
        clear hw' w'
        go_wp2
        go_ret
        refine .inl ⟨rfl, ?_⟩
        rw [HQ.out]
        exact (HA.out.s0 18).bad
      · have h69' : (c == 69) = false := by simpa using h69
        by_cases h43 : c = 43
        · subst h43
          have HQ : Hid (nxt ⟨15, stk, key, left, hex⟩ 43 = some (mk 16 stk)) := by show nxt _ _ = _; simp [nxt, isDg]
          go_enter Try.func26, Try.ntmps26
          go_wp2
          go_ret
          refine .inl ⟨rfl, ?_⟩
          rw [HQ.out]
          exact (HA.out.s0 16).step (mk 16 stk) (Ext.plain _ _ _ _ _ (by omega) (by simp) hr)
        · have h43' : (c == 43) = false := by simpa using h43
          by_cases h45 : c = 45
          · subst h45
            have HQ : Hid (nxt ⟨15, stk, key, left, hex⟩ 45 = some (mk 16 stk)) := by show nxt _ _ = _; simp [nxt, isDg]
            go_enter Try.func26, Try.ntmps26
            go_wp2
            go_ret
            refine .inl ⟨rfl, ?_⟩
            rw [HQ.out]
            exact (HA.out.s0 16).step (mk 16 stk) (Ext.plain _ _ _ _ _ (by omega) (by simp) hr)
          · have h45' : (c == 45) = false := by simpa using h45
            by_cases h48 : c = 48
            · subst h48
              have HQ : Hid (nxt ⟨15, stk, key, left, hex⟩ 48 = some (mk 17 stk)) := by show nxt _ _ = _; simp [nxt, isDg]
              go_enter Try.func26, Try.ntmps26
              go_wp2_with fail
              go_at_call 30
              refine (ifdT _ _).mono ?_
              rintro e w' ⟨rfl, hw'⟩
              rw [hw']
              clear hw' w'
              go_wp2
              go_ret
              refine .inl ⟨rfl, ?_⟩
              rw [HQ.out]
              exact (HA.out.s0 17).step (mk 17 stk) (Ext.plain _ _ _ _ _ (by omega) (by simp) hr)
            · have h48' : (c == 48) = false := by simpa using h48
              cases hdg : isDg c
              · by_cases h1 : 48 ≤ c
                · have h1' : decide (48 ≤ c) = true := by simpa using h1
                  have h2 : ¬ c ≤ 57 := by intro h2; simp [isDg, h1, h2] at hdg
                  have h2' : decide (c ≤ 57) = false := by simpa using h2
                  have HQ : Hid (nxt ⟨15, stk, key, left, hex⟩ c = none) := by show nxt _ _ = _; simp [nxt, hdg, h48, h46, h101, h69, h43, h45]
                  go_enter Try.func26, Try.ntmps26
                  go_wp2_with fail
                  go_at_call 30
                  refine (ifdF _ _).mono ?_
                  rintro e w' ⟨rfl, hw'⟩
                  rw [hw']
                  clear hw' w'
                  go_wp2
                  go_ret
                  refine .inl ⟨rfl, ?_⟩
                  rw [HQ.out]
                  exact (HA.out.s0 18).bad
                · have h1' : decide (48 ≤ c) = false := by simpa using h1
                  have HQ : Hid (nxt ⟨15, stk, key, left, hex⟩ c = none) := by show nxt _ _ = _; simp [nxt, hdg, h48, h46, h101, h69, h43, h45]
                  go_enter Try.func26, Try.ntmps26
                  go_wp2_with fail
                  go_at_call 30
                  refine (ifdF _ _).mono ?_
                  rintro e w' ⟨rfl, hw'⟩
                  rw [hw']
                  clear hw' w'
                  go_wp2
                  go_ret
                  refine .inl ⟨rfl, ?_⟩
                  rw [HQ.out]
                  exact (HA.out.s0 18).bad
              · have h9 : 48 ≤ c ∧ c ≤ 57 := by simpa [isDg] using hdg
                have h1' : decide (48 ≤ c) = true := by simpa using h9.1
                have h2' : decide (c ≤ 57) = true := by simpa using h9.2
                have HQ : Hid (nxt ⟨15, stk, key, left, hex⟩ c = some (mk 17 stk)) := by show nxt _ _ = _; simp [nxt, hdg, h48, h46, h101, h69, h43, h45]
                go_enter Try.func26, Try.ntmps26
                go_wp2_with fail
                go_at_call 30
                refine (ifdT _ _).mono ?_
                rintro e w' ⟨rfl, hw'⟩
                rw [hw']
                clear hw' w'
                go_wp2
                go_ret
                refine .inl ⟨rfl, ?_⟩
                rw [HQ.out]
                exact (HA.out.s0 17).step (mk 17 stk) (Ext.plain _ _ _ _ _ (by omega) (by simp) hr)

set_option maxRecDepth 10000 in
set_option maxHeartbeats 4000000 in
theorem num26_16 (B : Nat) (w0 w : World) (t : Nat) (stk : List Bool) (key : Bool) (left : List Int) (hex : Nat) (c : Int) (i : Nat) (o : Nat) (dv kv lv hv : Value) (x y : Int) (hi : i ≤ 1048576)
    (h : At B w0 w t 16 stk o dv kv lv hv (.int .i64 x) (.int .i64 y)) (he : Ext ⟨16, stk, key, left, hex⟩ kv lv hv) (hr : stk.length ≤ 10000) :
    Calls Try.prog 26 #[.pointer (some ⟨t, 0, none⟩), .int .u8 c, .int .i64 i] w (NumP B w0 t ⟨16, stk, key, left, hex⟩ c i) := by
  have c0 := h.raw.c0
  have f0 := h.raw.fz 0
  have HA : Hid (At B w0 w t 16 stk o dv kv lv hv (.int .i64 x) (.int .i64 y)) := h
  have HX : Hid (Ext ⟨16, stk, key, left, hex⟩ kv lv hv) := he
  clear h he
  by_cases h46 : c = 46
  · subst h46
    have HQ : Hid (nxt ⟨16, stk, key, left, hex⟩ 46 = none) := by show nxt _ _ = _; simp [nxt, isDg]
    go_enter Try.func26, Try.ntmps26
    go_wp2_with fail
    go_at_call 30
    refine (ifdF _ _).mono ?_
    rintro e w' ⟨rfl, hw'⟩
    rw [hw']
    clear hw' w'
    go_wp2
    go_ret
    refine .inl ⟨rfl, ?_⟩
    rw [HQ.out]
    exact (HA.out.s0 18).bad
  · have h46' : (c == 46) = false := by simpa using h46
    by_cases h101 : c = 101
    · subst h101
      have HQ : Hid (nxt ⟨16, stk, key, left, hex⟩ 101 = none) := by show nxt _ _ = _; simp [nxt, isDg]
      go_enter Try.func26, Try.ntmps26
      go_wp2_with fail
      go_at_call 30
      refine (ifdF _ _).mono ?_
      rintro e w' ⟨rfl, hw'⟩
      rw [hw']
      clear hw' w'
      go_wp2
      go_ret
      refine .inl ⟨rfl, ?_⟩
      rw [HQ.out]
      exact (HA.out.s0 18).bad
    · have h101' : (c == 101) = false := by simpa using h101
      by_cases h69 : c = 69
      · subst h69
        have HQ : Hid (nxt ⟨16, stk, key, left, hex⟩ 69 = none) := by show nxt _ _ = _; simp [nxt, isDg]
        go_enter Try.func26, Try.ntmps26
        go_wp2_with fail
        go_at_call 30
        refine (ifdF _ _).mono ?_
        rintro e w' ⟨rfl, hw'⟩
        rw [hw']
        clear hw' w'
        go_wp2
        go_ret
        refine .inl ⟨rfl, ?_⟩
        rw [HQ.out]
        exact (HA.out.s0 18).bad
      · have h69' : (c == 69) = false := by simpa using h69
        by_cases h43 : c = 43
        · subst h43
          have HQ : Hid (nxt ⟨16, stk, key, left, hex⟩ 43 = none) := by show nxt _ _ = _; simp [nxt, isDg]
          go_enter Try.func26, Try.ntmps26
          go_wp2_with fail
          go_at_call 30
          refine (ifdF _ _).mono ?_
          rintro e w' ⟨rfl, hw'⟩
          rw [hw']
          clear hw' w'
          go_wp2
          go_ret
          refine .inl ⟨rfl, ?_⟩
          rw [HQ.out]
          exact (HA.out.s0 18).bad
        · have h43' : (c == 43) = false := by simpa using h43
          by_cases h45 : c = 45
          · subst h45
            have HQ : Hid (nxt ⟨16, stk, key, left, hex⟩ 45 = none) := by show nxt _ _ = _; simp [nxt, isDg]
            go_enter Try.func26, Try.ntmps26
            go_wp2_with fail
            go_at_call 30
            refine (ifdF _ _).mono ?_
            rintro e w' ⟨rfl, hw'⟩
            rw [hw']
            clear hw' w'
            go_wp2
            go_ret
            refine .inl ⟨rfl, ?_⟩
            rw [HQ.out]
            exact (HA.out.s0 18).bad
          · have h45' : (c == 45) = false := by simpa using h45
            by_cases h48 : c = 48
            · subst h48
              have HQ : Hid (nxt ⟨16, stk, key, left, hex⟩ 48 = some (mk 17 stk)) := by show nxt _ _ = _; simp [nxt, isDg]
              go_enter Try.func26, Try.ntmps26
              go_wp2_with fail
              go_at_call 30
              refine (ifdT _ _).mono ?_
              rintro e w' ⟨rfl, hw'⟩
              rw [hw']
              clear hw' w'
              go_wp2
              go_ret
              refine .inl ⟨rfl, ?_⟩
              rw [HQ.out]
              exact (HA.out.s0 17).step (mk 17 stk) (Ext.plain _ _ _ _ _ (by omega) (by simp) hr)
            · have h48' : (c == 48) = false := by simpa using h48
              cases hdg : isDg c
              · by_cases h1 : 48 ≤ c
                · have h1' : decide (48 ≤ c) = true := by simpa using h1
                  have h2 : ¬ c ≤ 57 := by intro h2; simp [isDg, h1, h2] at hdg
                  have h2' : decide (c ≤ 57) = false := by simpa using h2
                  have HQ : Hid (nxt ⟨16, stk, key, left, hex⟩ c = none) := by show nxt _ _ = _; simp [nxt, hdg, h48, h46, h101, h69, h43, h45]
                  go_enter Try.func26, Try.ntmps26
                  go_wp2_with fail
                  go_at_call 30
                  refine (ifdF _ _).mono ?_
                  rintro e w' ⟨rfl, hw'⟩
                  rw [hw']
                  clear hw' w'
                  go_wp2
                  go_ret
                  refine .inl ⟨rfl, ?_⟩
                  rw [HQ.out]
                  exact (HA.out.s0 18).bad
                · have h1' : decide (48 ≤ c) = false := by simpa using h1
                  have HQ : Hid (nxt ⟨16, stk, key, left, hex⟩ c = none) := by show nxt _ _ = _; simp [nxt, hdg, h48, h46, h101, h69, h43, h45]
                  go_enter Try.func26, Try.ntmps26
                  go_wp2_with fail
                  go_at_call 30
                  refine (ifdF _ _).mono ?_
                  rintro e w' ⟨rfl, hw'⟩
                  rw [hw']
                  clear hw' w'
                  go_wp2
                  go_ret
                  refine .inl ⟨rfl, ?_⟩
                  rw [HQ.out]
                  exact (HA.out.s0 18).bad
              · have h9 : 48 ≤ c ∧ c ≤ 57 := by simpa [isDg] using hdg
                have h1' : decide (48 ≤ c) = true := by simpa using h9.1
                have h2' : decide (c ≤ 57) = true := by simpa using h9.2
                have HQ : Hid (nxt ⟨16, stk, key, left, hex⟩ c = some (mk 17 stk)) := by show nxt _ _ = _; simp [nxt, hdg, h48, h46, h101, h69, h43, h45]
                go_enter Try.func26, Try.ntmps26
                go_wp2_with fail
                go_at_call 30
                refine (ifdT _ _).mono ?_
                rintro e w' ⟨rfl, hw'⟩
                rw [hw']
                clear hw' w'
                go_wp2
                go_ret
                refine .inl ⟨rfl, ?_⟩
                rw [HQ.out]
                exact (HA.out.s0 17).step (mk 17 stk) (Ext.plain _ _ _ _ _ (by omega) (by simp) hr)

set_option maxRecDepth 10000 in
set_option maxHeartbeats 4000000 in
theorem num26_17 (B : Nat) (w0 w : World) (t : Nat) (stk : List Bool) (key : Bool) (left : List Int) (hex : Nat) (c : Int) (i : Nat) (o : Nat) (dv kv lv hv : Value) (x y : Int) (hi : i ≤ 1048576)
    (h : At B w0 w t 17 stk o dv kv lv hv (.int .i64 x) (.int .i64 y)) (he : Ext ⟨17, stk, key, left, hex⟩ kv lv hv) (hr : stk.length ≤ 10000) :
    Calls Try.prog 26 #[.pointer (some ⟨t, 0, none⟩), .int .u8 c, .int .i64 i] w (NumP B w0 t ⟨17, stk, key, left, hex⟩ c i) := by
  have c0 := h.raw.c0
  have f0 := h.raw.fz 0
  have HA : Hid (At B w0 w t 17 stk o dv kv lv hv (.int .i64 x) (.int .i64 y)) := h
  have HX : Hid (Ext ⟨17, stk, key, left, hex⟩ kv lv hv) := he
  clear h he
  by_cases h46 : c = 46
  · subst h46
    have HQ : Hid (nxt ⟨17, stk, key, left, hex⟩ 46 = flw stk 46) := by show nxt _ _ = _; simp [nxt, isDg]
    go_enter Try.func26, Try.ntmps26
    go_wp2
    go_ret
    exact .inr ⟨rfl, HQ.out, (HA.out.s0 5).step (mk 5 stk) (Ext.plain _ _ _ _ _ (by omega) (by simp) hr)⟩
  · have h46' : (c == 46) = false := by simpa using h46
    by_cases h101 : c = 101
    · subst h101
      have HQ : Hid (nxt ⟨17, stk, key, left, hex⟩ 101 = flw stk 101) := by show nxt _ _ = _; simp [nxt, isDg]
      go_enter Try.func26, Try.ntmps26
      go_wp2
      go_ret
      exact .inr ⟨rfl, HQ.out, (HA.out.s0 5).step (mk 5 stk) (Ext.plain _ _ _ _ _ (by omega) (by simp) hr)⟩
    · have h101' : (c == 101) = false := by simpa using h101
      by_cases h69 : c = 69
      · subst h69
        have HQ : Hid (nxt ⟨17, stk, key, left, hex⟩ 69 = flw stk 69) := by show nxt _ _ = _; simp [nxt, isDg]
        go_enter Try.func26, Try.ntmps26
        go_wp2
        go_ret
        exact .inr ⟨rfl, HQ.out, (HA.out.s0 5).step (mk 5 stk) (Ext.plain _ _ _ _ _ (by omega) (by simp) hr)⟩
      · have h69' : (c == 69) = false := by simpa using h69
        by_cases h43 : c = 43
        · subst h43
          have HQ : Hid (nxt ⟨17, stk, key, left, hex⟩ 43 = flw stk 43) := by show nxt _ _ = _; simp [nxt, isDg]
          go_enter Try.func26, Try.ntmps26
          go_wp2
          go_ret
          exact .inr ⟨rfl, HQ.out, (HA.out.s0 5).step (mk 5 stk) (Ext.plain _ _ _ _ _ (by omega) (by simp) hr)⟩
        · have h43' : (c == 43) = false := by simpa using h43
          by_cases h45 : c = 45
          · subst h45
            have HQ : Hid (nxt ⟨17, stk, key, left, hex⟩ 45 = flw stk 45) := by show nxt _ _ = _; simp [nxt, isDg]
            go_enter Try.func26, Try.ntmps26
            go_wp2
            go_ret
            exact .inr ⟨rfl, HQ.out, (HA.out.s0 5).step (mk 5 stk) (Ext.plain _ _ _ _ _ (by omega) (by simp) hr)⟩
          · have h45' : (c == 45) = false := by simpa using h45
            by_cases h48 : c = 48
            · subst h48
              have HQ : Hid (nxt ⟨17, stk, key, left, hex⟩ 48 = some ⟨17, stk, key, left, hex⟩) := by show nxt _ _ = _; simp [nxt, isDg]
              go_enter Try.func26, Try.ntmps26
              go_wp2
              go_ret
              refine .inl ⟨rfl, ?_⟩
              rw [HQ.out]
              exact HA.out.step ⟨17, stk, key, left, hex⟩ HX.out
            · have h48' : (c == 48) = false := by simpa using h48
              cases hdg : isDg c
              · by_cases h1 : 48 ≤ c
                · have h1' : decide (48 ≤ c) = true := by simpa using h1
                  have h2 : ¬ c ≤ 57 := by intro h2; simp [isDg, h1, h2] at hdg
                  have h2' : decide (c ≤ 57) = false := by simpa using h2
                  have HQ : Hid (nxt ⟨17, stk, key, left, hex⟩ c = flw stk c) := by show nxt _ _ = _; simp [nxt, hdg, h48, h46, h101, h69, h43, h45]
                  go_enter Try.func26, Try.ntmps26
                  go_wp2
                  go_ret
                  exact .inr ⟨rfl, HQ.out, (HA.out.s0 5).step (mk 5 stk) (Ext.plain _ _ _ _ _ (by omega) (by simp) hr)⟩
                · have h1' : decide (48 ≤ c) = false := by simpa using h1
                  have HQ : Hid (nxt ⟨17, stk, key, left, hex⟩ c = flw stk c) := by show nxt _ _ = _; simp [nxt, hdg, h48, h46, h101, h69, h43, h45]
                  go_enter Try.func26, Try.ntmps26
                  go_wp2
                  go_ret
                  exact .inr ⟨rfl, HQ.out, (HA.out.s0 5).step (mk 5 stk) (Ext.plain _ _ _ _ _ (by omega) (by simp) hr)⟩
              · have h9 : 48 ≤ c ∧ c ≤ 57 := by simpa [isDg] using hdg
                have h1' : decide (48 ≤ c) = true := by simpa using h9.1
                have h2' : decide (c ≤ 57) = true := by simpa using h9.2
                have HQ : Hid (nxt ⟨17, stk, key, left, hex⟩ c = some ⟨17, stk, key, left, hex⟩) := by show nxt _ _ = _; simp [nxt, hdg, h48, h46, h101, h69, h43, h45]
                go_enter Try.func26, Try.ntmps26
                go_wp2
                go_ret
                refine .inl ⟨rfl, ?_⟩
                rw [HQ.out]
                exact HA.out.step ⟨17, stk, key, left, hex⟩ HX.out


theorem num26 (B : Nat) (w0 w : World) (t : Nat) (s : S) (hs : 10 ≤ s.st) (c : Int) (i : Nat) (o : Nat) (dv kv lv hv : Value) (x y : Int) (hi : i ≤ 1048576)
    (h : At B w0 w t s.st s.stk o dv kv lv hv (.int .i64 x) (.int .i64 y)) (he : Ext s kv lv hv) :
    Calls Try.prog 26 #[.pointer (some ⟨t, 0, none⟩), .int .u8 c, .int .i64 i] w (NumP B w0 t s c i) := by
  have hr := he.2.2.2.2.1
  have hs2 := he.2.2.2.2.2
  obtain ⟨st, stk, key, left, hex⟩ := s
  simp only at hs hs2 hr h
  have : st = 10 ∨ st = 11 ∨ st = 12 ∨ st = 13 ∨ st = 14 ∨ st = 15 ∨ st = 16 ∨ st = 17 := by omega
  rcases this with rfl | rfl | rfl | rfl | rfl | rfl | rfl | rfl
  · exact num26_10 B w0 w t stk key left hex c i o dv kv lv hv x y hi h he hr
  · exact num26_11 B w0 w t stk key left hex c i o dv kv lv hv x y hi h he hr
  · exact num26_12 B w0 w t stk key left hex c i o dv kv lv hv x y hi h he hr
  · exact num26_13 B w0 w t stk key left hex c i o dv kv lv hv x y hi h he hr
  · exact num26_14 B w0 w t stk key left hex c i o dv kv lv hv x y hi h he hr
  · exact num26_15 B w0 w t stk key left hex c i o dv kv lv hv x y hi h he hr
  · exact num26_16 B w0 w t stk key left hex c i o dv kv lv hv x y hi h he hr
  · exact num26_17 B w0 w t stk key left hex c i o dv kv lv hv x y hi h he hr
end Go.Proofs.Qxb6612399a
