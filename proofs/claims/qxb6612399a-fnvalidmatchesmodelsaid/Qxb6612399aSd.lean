/- follow, walked. -/
import Derived.Test.Qxb6612399aSc
namespace Go.Proofs.Qxb6612399a
open Go.RowKit
set_option linter.unusedVariables false

set_option maxRecDepth 10000 in
set_option maxHeartbeats 4000000 in
theorem follow23 (B : Nat) (w0 w : World) (t : Nat) (stk : List Bool) (c : Int) (o : Nat) (dv kv lv hv : Value) (x y : Int) (h : At B w0 w t 5 stk o dv kv lv hv (.int .i64 x) (.int .i64 y)) (hr : stk.length ≤ 10000) :
    Calls Try.prog 23 #[.pointer (some ⟨t, 0, none⟩), .int .u8 c] w fun e w' => e = .returned (.tuple #[]) ∧ StepP B w0 t (flw stk c) w' := by
  have hnot : ∀ (x : Bool) (w : World), (Op.unary .not (.bool x)).run Try.prog w = .ok (.bool (!x)) w := fun _ _ => rfl
  have c0 := h.raw.c0
  have c2 := h.raw.c2
  have f0 := h.raw.fz 0
  have HA : Hid (At B w0 w t 5 stk o dv kv lv hv (.int .i64 x) (.int .i64 y)) := h
  clear h
  cases hsp : isSp c
  · cases stk with
    | nil =>
      have HQ : Hid (flw [] c = none) := by simp only [flw]; rw [hsp]; exact rfl
      generalize flw [] c = X at *
      go_enter Try.func23, Try.ntmps23
      go_wp2_with fail
      go_at_call 20
      refine (sp20 _ _).mono ?_
      rintro e w' ⟨rfl, hw'⟩
      rw [hw']
      clear hw' w'
      go_wp2
      first | go_end0 | refine bodyPost_ret (results_none rfl _ _ _) rfl ?_
      refine ⟨rfl, ?_⟩
      rw [HQ.out]
      exact (HA.out.s0 18).bad
    | cons b r =>
      have hz : (((b :: r).length : Int) == 0) = false := by simp; omega
      have hz' : ((r.length : Int) + 1 == 0) = false := by simp; omega
      cases b
      · by_cases hc : c = 44
        · have HQ : Hid (flw (false :: r) c = some (mk 0 (false :: r))) := by show flw _ _ = _; rw [hc]; rw [hc] at hsp; simp [flw, hsp]
          generalize flw (false :: r) c = X at *
          subst hc
          go_enter Try.func23, Try.ntmps23
          go_wp2_with fail
          go_at_call 20
          refine (sp20 _ _).mono ?_
          rintro e w' ⟨rfl, hw'⟩
          rw [hw']
          clear hw' w'
          go_wp2_with fail
          go_at_call 29
          refine (inObj29 B _ t 5 o dv kv lv hv _ _ false r (by exact HA.out.raw) (by exact HA.out.stk)).mono ?_
          rintro e w' ⟨rfl, q, hw'⟩
          rw [hw']
          clear hw' w'
          go_wp2
          first | go_end0 | refine bodyPost_ret (results_none rfl _ _ _) rfl ?_
          refine ⟨rfl, ?_⟩
          rw [HQ.out]
          exact ((HA.out.drewN _).s0 0).step (mk 0 (false :: r)) (Ext.plain _ _ _ _ _ (by omega) (by simp) hr)
        · have h44' : (c == 44) = false := by simpa using hc
          have h44 := hc
          clear hc
          by_cases hc : c = 125
          · have HQ : Hid (flw (false :: r) c = none) := by show flw _ _ = _; rw [hc]; rw [hc] at hsp; simp [flw, hsp]
            generalize flw (false :: r) c = X at *
            subst hc
            go_enter Try.func23, Try.ntmps23
            go_wp2_with fail
            go_at_call 20
            refine (sp20 _ _).mono ?_
            rintro e w' ⟨rfl, hw'⟩
            rw [hw']
            clear hw' w'
            go_wp2_with fail
            go_at_call 29
            refine (inObj29 B _ t 5 o dv kv lv hv _ _ false r (by exact HA.out.raw) (by exact HA.out.stk)).mono ?_
            rintro e w' ⟨rfl, q, hw'⟩
            rw [hw']
            clear hw' w'
            go_wp2
            first | go_end0 | refine bodyPost_ret (results_none rfl _ _ _) rfl ?_
            refine ⟨rfl, ?_⟩
            rw [HQ.out]
            exact ((HA.out.drewN _).s0 18).bad
          · have h125' : (c == 125) = false := by simpa using hc
            have h125 := hc
            clear hc
            by_cases hc : c = 93
            · have HQ : Hid (flw (false :: r) c = some (mk 5 r)) := by show flw _ _ = _; rw [hc]; rw [hc] at hsp; simp [flw, hsp]
              generalize flw (false :: r) c = X at *
              subst hc
              go_enter Try.func23, Try.ntmps23
              go_wp2_with fail
              go_at_call 20
              refine (sp20 _ _).mono ?_
              rintro e w' ⟨rfl, hw'⟩
              rw [hw']
              clear hw' w'
              go_wp2_with fail
              go_at_call 29
              refine (inObj29 B _ t 5 o dv kv lv hv _ _ false r (by exact HA.out.raw) (by exact HA.out.stk)).mono ?_
              rintro e w' ⟨rfl, q, hw'⟩
              rw [hw']
              clear hw' w'
              go_wp2_with fail
              go_at_call 21
              refine (close21 B _ t 5 o dv kv lv hv _ _ false r (by exact HA.out.raw) (by exact HA.out.stk) HA.out.hBt ⟨_, rfl⟩ ⟨_, rfl⟩ (by simp at hr; omega)).mono ?_
              rintro e w2 ⟨rfl, hp⟩
              obtain ⟨o2, dv2, x2, y2, h2⟩ := At.post (by exact HA.out.drewN _) hp
              clear hp
              go_wp2
              first | go_end0 | refine bodyPost_ret (results_none rfl _ _ _) rfl ?_
              refine ⟨rfl, ?_⟩
              rw [HQ.out]
              exact h2.step (mk 5 r) (Ext.plain _ _ _ _ _ (by omega) (by simp) (by simp at hr; omega))
            · have h93' : (c == 93) = false := by simpa using hc
              have h93 := hc
              clear hc
              have HQ : Hid (flw (false :: r) c = none) := by show flw _ _ = _; simp [flw, hsp, h44, h125, h93]
              generalize flw (false :: r) c = X at *
              go_enter Try.func23, Try.ntmps23
              go_wp2_with fail
              go_at_call 20
              refine (sp20 _ _).mono ?_
              rintro e w' ⟨rfl, hw'⟩
              rw [hw']
              clear hw' w'
              go_wp2_with fail
              go_at_call 29
              refine (inObj29 B _ t 5 o dv kv lv hv _ _ false r (by exact HA.out.raw) (by exact HA.out.stk)).mono ?_
              rintro e w' ⟨rfl, q, hw'⟩
              rw [hw']
              clear hw' w'
              go_wp2
              first | go_end0 | refine bodyPost_ret (results_none rfl _ _ _) rfl ?_
              refine ⟨rfl, ?_⟩
              rw [HQ.out]
              exact ((HA.out.drewN _).s0 18).bad
      · by_cases hc : c = 44
        · have HQ : Hid (flw (true :: r) c = some (mk 3 (true :: r))) := by show flw _ _ = _; rw [hc]; rw [hc] at hsp; simp [flw, hsp]
          generalize flw (true :: r) c = X at *
          subst hc
          go_enter Try.func23, Try.ntmps23
          go_wp2_with fail
          go_at_call 20
          refine (sp20 _ _).mono ?_
          rintro e w' ⟨rfl, hw'⟩
          rw [hw']
          clear hw' w'
          go_wp2_with fail
          go_at_call 29
          refine (inObj29 B _ t 5 o dv kv lv hv _ _ true r (by exact HA.out.raw) (by exact HA.out.stk)).mono ?_
          rintro e w' ⟨rfl, q, hw'⟩
          rw [hw']
          clear hw' w'
          go_wp2
          first | go_end0 | refine bodyPost_ret (results_none rfl _ _ _) rfl ?_
          refine ⟨rfl, ?_⟩
          rw [HQ.out]
          exact ((HA.out.drewN _).s0 3).step (mk 3 (true :: r)) (Ext.plain _ _ _ _ _ (by omega) (by simp) hr)
        · have h44' : (c == 44) = false := by simpa using hc
          have h44 := hc
          clear hc
          by_cases hc : c = 125
          · have HQ : Hid (flw (true :: r) c = some (mk 5 r)) := by show flw _ _ = _; rw [hc]; rw [hc] at hsp; simp [flw, hsp]
            generalize flw (true :: r) c = X at *
            subst hc
            go_enter Try.func23, Try.ntmps23
            go_wp2_with fail
            go_at_call 20
            refine (sp20 _ _).mono ?_
            rintro e w' ⟨rfl, hw'⟩
            rw [hw']
            clear hw' w'
            go_wp2_with fail
            go_at_call 29
            refine (inObj29 B _ t 5 o dv kv lv hv _ _ true r (by exact HA.out.raw) (by exact HA.out.stk)).mono ?_
            rintro e w' ⟨rfl, q, hw'⟩
            rw [hw']
            clear hw' w'
            go_wp2_with fail
            go_at_call 21
            refine (close21 B _ t 5 o dv kv lv hv _ _ true r (by exact HA.out.raw) (by exact HA.out.stk) HA.out.hBt ⟨_, rfl⟩ ⟨_, rfl⟩ (by simp at hr; omega)).mono ?_
            rintro e w2 ⟨rfl, hp⟩
            obtain ⟨o2, dv2, x2, y2, h2⟩ := At.post (by exact HA.out.drewN _) hp
            clear hp
            go_wp2
            first | go_end0 | refine bodyPost_ret (results_none rfl _ _ _) rfl ?_
            refine ⟨rfl, ?_⟩
            rw [HQ.out]
            exact h2.step (mk 5 r) (Ext.plain _ _ _ _ _ (by omega) (by simp) (by simp at hr; omega))
          · have h125' : (c == 125) = false := by simpa using hc
            have h125 := hc
            clear hc
            by_cases hc : c = 93
            · have HQ : Hid (flw (true :: r) c = none) := by show flw _ _ = _; rw [hc]; rw [hc] at hsp; simp [flw, hsp]
              generalize flw (true :: r) c = X at *
              subst hc
              go_enter Try.func23, Try.ntmps23
              go_wp2_with fail
              go_at_call 20
              refine (sp20 _ _).mono ?_
              rintro e w' ⟨rfl, hw'⟩
              rw [hw']
              clear hw' w'
              go_wp2_with fail
              go_at_call 29
              refine (inObj29 B _ t 5 o dv kv lv hv _ _ true r (by exact HA.out.raw) (by exact HA.out.stk)).mono ?_
              rintro e w' ⟨rfl, q, hw'⟩
              rw [hw']
              clear hw' w'
              go_wp2
              first | go_end0 | refine bodyPost_ret (results_none rfl _ _ _) rfl ?_
              refine ⟨rfl, ?_⟩
              rw [HQ.out]
              exact ((HA.out.drewN _).s0 18).bad
            · have h93' : (c == 93) = false := by simpa using hc
              have h93 := hc
              clear hc
              have HQ : Hid (flw (true :: r) c = none) := by show flw _ _ = _; simp [flw, hsp, h44, h125, h93]
              generalize flw (true :: r) c = X at *
              go_enter Try.func23, Try.ntmps23
              go_wp2_with fail
              go_at_call 20
              refine (sp20 _ _).mono ?_
              rintro e w' ⟨rfl, hw'⟩
              rw [hw']
              clear hw' w'
              go_wp2_with fail
              go_at_call 29
              refine (inObj29 B _ t 5 o dv kv lv hv _ _ true r (by exact HA.out.raw) (by exact HA.out.stk)).mono ?_
              rintro e w' ⟨rfl, q, hw'⟩
              rw [hw']
              clear hw' w'
              go_wp2
              first | go_end0 | refine bodyPost_ret (results_none rfl _ _ _) rfl ?_
              refine ⟨rfl, ?_⟩
              rw [HQ.out]
              exact ((HA.out.drewN _).s0 18).bad
  · have HQ : Hid (flw stk c = some (mk 5 stk)) := by simp only [flw]; rw [hsp]; exact rfl
    generalize flw stk c = X at *
    go_enter Try.func23, Try.ntmps23
    go_wp2_with fail
    go_at_call 20
    refine (sp20 _ _).mono ?_
    rintro e w' ⟨rfl, hw'⟩
    rw [hw']
    clear hw' w'
    go_wp2
    first | go_end0 | refine bodyPost_ret (results_none rfl _ _ _) rfl ?_
    refine ⟨rfl, ?_⟩
    rw [HQ.out]
    exact HA.out.step (mk 5 stk) (Ext.plain _ _ _ _ _ (by omega) (by simp) hr)
end Go.Proofs.Qxb6612399a
