/- The scanner's small functions, walked. -/
import Derived.Test.Qxb6612399aZg
import Derived.Laws.BitsAllLaws
namespace Go.Proofs.Qxb6612399a
open Go.RowKit
set_option linter.unusedVariables false

theorem sp20 (c : Int) (w : World) : Calls Try.prog 20 #[.int .u8 c] w fun e w' => e = .returned (.bool (isSp c)) ∧ w' = w := by
  by_cases h1 : c = 32
  · subst h1
    go_enter Try.func20, Try.ntmps20
    go_wp2
    go_ret
    exact ⟨rfl, rfl⟩
  · have h1' : (c == 32) = false := by simpa using h1
    by_cases h2 : c = 9
    · subst h2
      go_enter Try.func20, Try.ntmps20
      go_wp2
      go_ret
      exact ⟨rfl, rfl⟩
    · have h2' : (c == 9) = false := by simpa using h2
      by_cases h3 : c = 13
      · subst h3
        go_enter Try.func20, Try.ntmps20
        go_wp2
        go_ret
        exact ⟨rfl, rfl⟩
      · have h3' : (c == 13) = false := by simpa using h3
        have e : isSp c = (c == 10) := by simp [isSp, h1, h2, h3]
        rw [e]
        clear e
        go_enter Try.func20, Try.ntmps20
        go_wp2
        go_ret
        exact ⟨rfl, rfl⟩

set_option maxHeartbeats 800000 in
theorem hx25 (c : Int) (w : World) : Calls Try.prog 25 #[.int .u8 c] w fun e w' => e = .returned (.bool (isHx c)) ∧ w' = w := by
  by_cases a1 : 48 ≤ c
  · have a1' : decide (48 ≤ c) = true := by simpa using a1
    by_cases a2 : c ≤ 57
    · have a2' : decide (c ≤ 57) = true := by simpa using a2
      have e : isHx c = true := by simp [isHx, isDg, a1, a2]
      rw [e]
      go_enter Try.func25, Try.ntmps25
      go_wp2
      go_ret
      exact ⟨rfl, rfl⟩
    · have a2' : decide (c ≤ 57) = false := by simpa using a2
      by_cases a3 : 97 ≤ c
      · have a3' : decide (97 ≤ c) = true := by simpa using a3
        by_cases a4 : c ≤ 102
        · have a4' : decide (c ≤ 102) = true := by simpa using a4
          have e : isHx c = true := by simp [isHx, a3, a4]
          rw [e]
          go_enter Try.func25, Try.ntmps25
          go_wp2
          go_ret
          exact ⟨rfl, rfl⟩
        · have a4' : decide (c ≤ 102) = false := by simpa using a4
          have a5' : decide (65 ≤ c) = true := by simp; omega
          have a6' : decide (c ≤ 70) = false := by simp; omega
          have e : isHx c = false := by simp [isHx, isDg, a2, a4]; omega
          rw [e]
          go_enter Try.func25, Try.ntmps25
          go_wp2
          go_ret
          exact ⟨rfl, rfl⟩
      · have a3' : decide (97 ≤ c) = false := by simpa using a3
        by_cases a5 : 65 ≤ c
        · have a5' : decide (65 ≤ c) = true := by simpa using a5
          have e : isHx c = decide (c ≤ 70) := by simp [isHx, isDg, a2, a3, a5]
          rw [e]
          clear e
          go_enter Try.func25, Try.ntmps25
          go_wp2
          go_ret
          exact ⟨rfl, rfl⟩
        · have a5' : decide (65 ≤ c) = false := by simpa using a5
          have e : isHx c = false := by simp [isHx, isDg, a2, a3, a5]
          rw [e]
          go_enter Try.func25, Try.ntmps25
          go_wp2
          go_ret
          exact ⟨rfl, rfl⟩
  · have a1' : decide (48 ≤ c) = false := by simpa using a1
    have a3' : decide (97 ≤ c) = false := by simp; omega
    have a5' : decide (65 ≤ c) = false := by simp; omega
    have e : isHx c = false := by simp [isHx, isDg, a1]; omega
    rw [e]
    go_enter Try.func25, Try.ntmps25
    go_wp2
    go_ret
    exact ⟨rfl, rfl⟩
theorem ifd30 (b : Bool) (x : Int) (w : World) : Calls Try.prog 30 #[.bool b, .int .u8 x] w fun e w' => e = .returned (.int .u8 (if b then x else 18)) ∧ w' = w := by
  cases b
  · go_enter Try.func30, Try.ntmps30
    go_wp2
    go_ret
    exact ⟨rfl, rfl⟩
  · go_enter Try.func30, Try.ntmps30
    go_wp2
    go_ret
    exact ⟨rfl, rfl⟩

/-- the scanner's record, cell by cell -/
def Raw (w : World) (t : Nat) (st : Int) (L : Nat) (o : Nat) (dv kv lv hv xv yv : Value) : Prop :=
  Box w t 29 #[.int .u8 st, .int .i64 10000, .int .i64 L, .int .u64 o, dv, kv, lv, hv, xv, yv]

section
variable {w : World} {t : Nat} {st : Int} {L o : Nat} {dv kv lv hv xv yv : Value}
theorem Raw.c0 (h : Raw w t st L o dv kv lv hv xv yv) : w.cell? ⟨t, 0, none⟩ = some (.int .u8 st) := Box.cell h rfl
theorem Raw.c1 (h : Raw w t st L o dv kv lv hv xv yv) : w.cell? ⟨t, 1, none⟩ = some (.int .i64 10000) := Box.cell h rfl
theorem Raw.c2 (h : Raw w t st L o dv kv lv hv xv yv) : w.cell? ⟨t, 2, none⟩ = some (.int .i64 L) := Box.cell h rfl
theorem Raw.c3 (h : Raw w t st L o dv kv lv hv xv yv) : w.cell? ⟨t, 3, none⟩ = some (.int .u64 o) := Box.cell h rfl
theorem Raw.c4 (h : Raw w t st L o dv kv lv hv xv yv) : w.cell? ⟨t, 4, none⟩ = some dv := Box.cell h rfl
theorem Raw.c5 (h : Raw w t st L o dv kv lv hv xv yv) : w.cell? ⟨t, 5, none⟩ = some kv := Box.cell h rfl
theorem Raw.c6 (h : Raw w t st L o dv kv lv hv xv yv) : w.cell? ⟨t, 6, none⟩ = some lv := Box.cell h rfl
theorem Raw.c7 (h : Raw w t st L o dv kv lv hv xv yv) : w.cell? ⟨t, 7, none⟩ = some hv := Box.cell h rfl
theorem Raw.c8 (h : Raw w t st L o dv kv lv hv xv yv) : w.cell? ⟨t, 8, none⟩ = some xv := Box.cell h rfl
theorem Raw.c9 (h : Raw w t st L o dv kv lv hv xv yv) : w.cell? ⟨t, 9, none⟩ = some yv := Box.cell h rfl
theorem Raw.fz (h : Raw w t st L o dv kv lv hv xv yv) (i : Nat) : w.frozen? ⟨t, i, none⟩ = false := Box.frozen h i
theorem Raw.s0 (h : Raw w t st L o dv kv lv hv xv yv) (v : Int) : Raw (w.setCell ⟨t, 0, none⟩ (.int .u8 v)) t v L o dv kv lv hv xv yv := Box.set h 0 _
theorem Raw.s2 (h : Raw w t st L o dv kv lv hv xv yv) (v : Nat) : Raw (w.setCell ⟨t, 2, none⟩ (.int .i64 v)) t st v o dv kv lv hv xv yv := Box.set h 2 _
theorem Raw.s3 (h : Raw w t st L o dv kv lv hv xv yv) (v : Nat) : Raw (w.setCell ⟨t, 3, none⟩ (.int .u64 v)) t st L v dv kv lv hv xv yv := Box.set h 3 _
theorem Raw.s4 (h : Raw w t st L o dv kv lv hv xv yv) (v : Value) : Raw (w.setCell ⟨t, 4, none⟩ v) t st L o v kv lv hv xv yv := Box.set h 4 _
theorem Raw.s5 (h : Raw w t st L o dv kv lv hv xv yv) (v : Value) : Raw (w.setCell ⟨t, 5, none⟩ v) t st L o dv v lv hv xv yv := Box.set h 5 _
theorem Raw.s6 (h : Raw w t st L o dv kv lv hv xv yv) (v : Value) : Raw (w.setCell ⟨t, 6, none⟩ v) t st L o dv kv v hv xv yv := Box.set h 6 _
theorem Raw.s7 (h : Raw w t st L o dv kv lv hv xv yv) (v : Value) : Raw (w.setCell ⟨t, 7, none⟩ v) t st L o dv kv lv v xv yv := Box.set h 7 _
theorem Raw.s8 (h : Raw w t st L o dv kv lv hv xv yv) (v : Value) : Raw (w.setCell ⟨t, 8, none⟩ v) t st L o dv kv lv hv v yv := Box.set h 8 _
theorem Raw.s9 (h : Raw w t st L o dv kv lv hv xv yv) (v : Value) : Raw (w.setCell ⟨t, 9, none⟩ v) t st L o dv kv lv hv xv v := Box.set h 9 _
theorem Raw.drewN (h : Raw w t st L o dv kv lv hv xv yv) (m : Nat) : Raw (w.drewN m) t st L o dv kv lv hv xv yv := h
end

def fin (st : Int) (L : Nat) : Bool := (st == 5 || st == 11 || st == 12 || st == 14 || st == 17) && (L == 0)

theorem done12 (w : World) (t : Nat) (st : Int) (L o : Nat) (dv kv lv hv xv yv : Value) (h : Raw w t st L o dv kv lv hv xv yv) :
    Calls Try.prog 12 #[.pointer (some ⟨t, 0, none⟩)] w fun e w' => e = .returned (.bool (fin st L)) ∧ w' = w := by
  have c0 := h.c0
  have c2 := h.c2
  clear h
  have hL : ((L : Int) == 0) = (L == 0) := by cases L <;> simp; omega
  by_cases f5 : st = 5
  · subst f5
    have E : Hid (fin 5 L = ((L : Int) == 0)) := by
      show fin 5 L = _
      rw [hL]; exact rfl
    clear hL
    go_enter Try.func12, Try.ntmps12
    go_wp2
    go_ret
    exact ⟨by rw [E.out]; rfl, rfl⟩
  · have f5' : (st == 5) = false := by simpa using f5
    by_cases f11 : st = 11
    · subst f11
      have E : Hid (fin 11 L = ((L : Int) == 0)) := by
        show fin 11 L = _
        rw [hL]; exact rfl
      clear hL
      go_enter Try.func12, Try.ntmps12
      go_wp2
      go_ret
      exact ⟨by rw [E.out]; rfl, rfl⟩
    · have f11' : (st == 11) = false := by simpa using f11
      by_cases f12 : st = 12
      · subst f12
        have E : Hid (fin 12 L = ((L : Int) == 0)) := by
          show fin 12 L = _
          rw [hL]; exact rfl
        clear hL
        go_enter Try.func12, Try.ntmps12
        go_wp2
        go_ret
        exact ⟨by rw [E.out]; rfl, rfl⟩
      · have f12' : (st == 12) = false := by simpa using f12
        by_cases f14 : st = 14
        · subst f14
          have E : Hid (fin 14 L = ((L : Int) == 0)) := by
            show fin 14 L = _
            rw [hL]; exact rfl
          clear hL
          go_enter Try.func12, Try.ntmps12
          go_wp2
          go_ret
          exact ⟨by rw [E.out]; rfl, rfl⟩
        · have f14' : (st == 14) = false := by simpa using f14
          by_cases f17 : st = 17
          · subst f17
            have E : Hid (fin 17 L = ((L : Int) == 0)) := by
              show fin 17 L = _
              rw [hL]; exact rfl
            clear hL
            go_enter Try.func12, Try.ntmps12
            go_wp2
            go_ret
            exact ⟨by rw [E.out]; rfl, rfl⟩
          · have f17' : (st == 17) = false := by simpa using f17
            have E : Hid (fin st L = false) := by
              show fin st L = false
              simp [fin, f5, f11, f12, f14, f17]
            go_enter Try.func12, Try.ntmps12
            go_wp2
            go_ret
            exact ⟨by rw [E.out]; rfl, rfl⟩

theorem and_pow (o j : Nat) : o &&& 2 ^ j = if o.testBit j then 2 ^ j else 0 := by
  apply Nat.eq_of_testBit_eq
  intro i
  rw [Nat.testBit_and, Nat.testBit_two_pow]
  by_cases h : j = i
  · subst h
    cases ho : o.testBit j <;> simp
  · cases ho : o.testBit j <;> simp [h]
theorem wrap_pow (j : Nat) (hj : j < 64) : IntKind.u64.wrap (2 ^ j) = ((2 ^ j : Nat) : Int) := by
  have h : (2 : Nat) ^ j < 2 ^ 64 := Nat.pow_lt_pow_right (by decide) hj
  have h2 : ((2 ^ j : Nat) : Int) = (2 : Int) ^ j := by simp
  rw [← h2]
  have : (2 : Nat) ^ 64 = 18446744073709551616 := by decide
  have e : IntKind.u64.wrap ((2 ^ j : Nat) : Int) = ((2 ^ j : Nat) : Int) % 18446744073709551616 := by simp [IntKind.wrap, IntKind.bits, IntKind.signed]
  rw [e]
  generalize 2 ^ j = z at h ⊢
  omega
theorem pow_lt64 (j : Nat) (hj : j < 64) : 2 ^ j < 18446744073709551616 := by
  have h : (2 : Nat) ^ j < 2 ^ 64 := Nat.pow_lt_pow_right (by decide) hj
  have : (2 : Nat) ^ 64 = 18446744073709551616 := by decide
  omega
theorem and_bit (o j : Nat) (ho : o < 18446744073709551616) (hj : j < 64) : (bits .and .u64 (o : Int) (IntKind.u64.wrap (2 ^ j)) != 0) = o.testBit j := by
  rw [wrap_pow j hj, u64_and_nat o _ ho (pow_lt64 j hj), and_pow]
  have := Nat.two_pow_pos j
  cases o.testBit j
  · simp
  · simp only [if_true]
    have : ¬ ((2 ^ j : Nat) : Int) = 0 := by omega
    simpa using this
theorem or_bit (o j : Nat) (ho : o < 18446744073709551616) (hj : j < 64) : ∃ o' : Nat, bits .or .u64 (o : Int) (IntKind.u64.wrap (2 ^ j)) = (o' : Int) ∧ o' < 18446744073709551616 ∧ ∀ i, o'.testBit i = (o.testBit i || decide (j = i)) := by
  rw [wrap_pow j hj, u64_or_nat o _ ho (pow_lt64 j hj)]
  refine ⟨_, rfl, ?_, ?_⟩
  · have h64 : (2 : Nat) ^ 64 = 18446744073709551616 := by decide
    rw [← h64] at *
    exact Nat.or_lt_two_pow ho (by have := pow_lt64 j hj; omega)
  · intro i
    rw [Nat.testBit_or, Nat.testBit_two_pow]
theorem andNot_bit (o j : Nat) (ho : o < 18446744073709551616) (hj : j < 64) : ∃ o' : Nat, bits .andNot .u64 (o : Int) (IntKind.u64.wrap (2 ^ j)) = (o' : Int) ∧ o' < 18446744073709551616 ∧ ∀ i, i < 64 → o'.testBit i = (o.testBit i && !decide (j = i)) := by
  rw [wrap_pow j hj, u64_andNot_nat o _ ho (pow_lt64 j hj)]
  refine ⟨_, rfl, Nat.lt_of_le_of_lt Nat.and_le_left ho, ?_⟩
  intro i hi
  rw [Nat.testBit_and]
  congr 1
  have h64 : 18446744073709551615 - 2 ^ j = 2 ^ 64 - (2 ^ j + 1) := by
    have h1 := pow_lt64 j hj
    have h2 : (2 : Nat) ^ 64 = 18446744073709551616 := by decide
    rw [h2]
    omega
  rw [h64, Nat.testBit_two_pow_sub_succ (Nat.pow_lt_pow_right (by decide) hj), Nat.testBit_two_pow]
  simp [hi]

def bracket (b : Bool) : Value := .int .u8 (if b then 123 else 91)
/-- the brackets open, as the record holds them: the outermost 64 as bits, the others as a row of bytes -/
def Stk (B : Nat) (w : World) (o : Nat) (dv : Value) (stk : List Bool) : Prop :=
  o < 18446744073709551616 ∧ (∀ j, j < 64 → j < stk.length → o.testBit j = stk.reverse.getD j false) ∧ w.ownsRow B 5 1 dv (stk.length - 64) ((stk.reverse.drop 64).map bracket)

theorem rev_last (b : Bool) (r : List Bool) : (b :: r).reverse.getD r.length false = b := by simp [List.getD]
theorem rev_below (b : Bool) (r : List Bool) (j : Nat) (hj : j < r.length) : (b :: r).reverse.getD j false = r.reverse.getD j false := by
  simp [List.getD, List.getElem?_append, hj]
theorem drop_rev (b : Bool) (r : List Bool) (h : 64 ≤ r.length) : (b :: r).reverse.drop 64 = r.reverse.drop 64 ++ [b] := by
  rw [List.reverse_cons, List.drop_append_of_le_length (by simpa using h)]
theorem Stk.drewN {B : Nat} {w : World} {o : Nat} {dv : Value} {stk : List Bool} (h : Stk B w o dv stk) (m : Nat) : Stk B (w.drewN m) o dv stk := h

theorem deep_last {w : World} {B : Nat} {dv : Value} {n : Nat} {xs : List Value} {x : Value} (h : w.ownsRow B 5 1 dv (n + 1) (xs ++ [x])) :
    ∃ g cap, dv = .slice (some ⟨g, 0, none⟩) (n + 1) cap ∧ w.cell? ⟨g, n, none⟩ = some x ∧ n + 1 ≤ cap ∧ cap ≤ maxLen := by
  obtain ⟨hlen, h2⟩ := owns_split h
  rcases h2 with ⟨_, h0, _⟩ | ⟨g, cap, cur, hv, _, hb, hn, hm, _, _, hc⟩
  · omega
  · refine ⟨g, cap, hv, hb.cell (hc n x ?_), hn, hm⟩
    have : xs.length = n := by simpa using hlen
    rw [List.getElem?_append_right (by omega)]
    simp [this]

set_option maxHeartbeats 800000 in
theorem inObj29 (B : Nat) (w : World) (t : Nat) (st : Int) (o : Nat) (dv kv lv hv xv yv : Value) (b : Bool) (r : List Bool) (h : Raw w t st (r.length + 1) o dv kv lv hv xv yv) (hS : Stk B w o dv (b :: r)) :
    Calls Try.prog 29 #[.pointer (some ⟨t, 0, none⟩)] w fun e w' => e = .returned (.bool b) ∧ ∃ q, w' = w.drewN q := by
  have c2 := h.c2
  have c3 := h.c3
  have c4 := h.c4
  clear h
  obtain ⟨ho, hbit, hrow⟩ := hS
  by_cases hL : r.length < 64
  · have HB : Hid ((bits .and .u64 (o : Int) (IntKind.u64.wrap (2 ^ r.length)) != 0) = b) := by
      show _ = b
      rw [and_bit o _ ho hL, hbit _ hL (by simp), rev_last]
    generalize r.length = L at *
    clear hbit hrow
    have h64 : decide ((64 : Int) < ((L + 1 : Nat) : Int)) = false := by simp; omega
    go_enter Try.func29, Try.ntmps29
    go_wp2
    go_quiet (fail)
    go_wp2
    go_ret
    exact ⟨by have := HB.out; exact congrArg (fun z => Ending.returned (Value.bool z)) this, _, rfl⟩
  · rw [drop_rev b r (by omega), List.map_append] at hrow
    have e : (b :: r).length - 64 = (r.length - 64) + 1 := by simp; omega
    rw [e] at hrow
    obtain ⟨g, cap, rfl, hcell, hcap, hmax⟩ := deep_last hrow
    have HB : Hid (((if b then (123 : Int) else 91) == 123) = b) := by
      show _ = b
      cases b <;> rfl
    have hm : cap ≤ 9223372036854775807 := hmax
    clear hbit hrow e hmax
    simp only [bracket] at hcell
    generalize (if b then (123 : Int) else 91) = x at hcell HB
    have h64 : decide ((64 : Int) < ((r.length + 1 : Nat) : Int)) = true := by simp; omega
    generalize r.length - 64 = m at *
    go_enter Try.func29, Try.ntmps29
    go_wp2
    go_quiet (fail)
    go_wp2
    go_ret
    exact ⟨by have := HB.out; exact congrArg (fun z => Ending.returned (Value.bool z)) this, _, rfl⟩
end Go.Proofs.Qxb6612399a
