/- close and push, walked. -/
import Derived.Test.Qxb6612399aSa
namespace Go.Proofs.Qxb6612399a
open Go.RowKit
set_option linter.unusedVariables false

theorem Stk.set {B : Nat} {w : World} {o : Nat} {dv : Value} {stk : List Bool} {t : Nat} {cs : Array Value} (h : Stk B w o dv stk) (hb : Box w t 29 cs) (i : Nat) (v : Value) : Stk B (w.setCell ⟨t, i, none⟩ v) o dv stk := by
  refine ⟨h.1, h.2.1, ?_⟩
  have hk : Kept (fun k => k = t) w (w.setCell ⟨t, i, none⟩ v) := (Kept.refl (fun k => k = t) w).setCell (p := ⟨t, i, none⟩) (.inl rfl) v
  refine Kept.owns hk h.2.2 ?_
  rintro g cur _ hg rfl
  exact hb.ne hg (by decide) rfl

/-- what a step leaves -/
def Post (B : Nat) (w : World) (t : Nat) (st : Int) (stk : List Bool) (kv lv hv : Value) (w' : World) : Prop :=
  ∃ o dv xv yv, Raw w' t st stk.length o dv kv lv hv xv yv ∧ Stk B w' o dv stk ∧ Below B w w' ∧ (∃ x : Int, xv = .int .i64 x) ∧ (∃ y : Int, yv = .int .i64 y)

theorem Post.drew {B : Nat} {w : World} {t : Nat} {st : Int} {stk : List Bool} {kv lv hv : Value} {w' : World} (h : Post B w t st stk kv lv hv w') : Post B w t st stk kv lv hv w'.drew := by
  obtain ⟨o, dv, xv, yv, h1, h2, h3, h4, h5⟩ := h
  exact ⟨o, dv, xv, yv, h1, h2, h3.drew, h4, h5⟩

set_option maxHeartbeats 1600000 in
theorem close21 (B : Nat) (w : World) (t : Nat) (st : Int) (o : Nat) (dv kv lv hv xv yv : Value) (b : Bool) (r : List Bool) (h : Raw w t st (r.length + 1) o dv kv lv hv xv yv) (hS : Stk B w o dv (b :: r))
    (hBt : B ≤ t) (hx : ∃ x : Int, xv = .int .i64 x) (hy : ∃ y : Int, yv = .int .i64 y) (hr : r.length ≤ 10000) :
    Calls Try.prog 21 #[.pointer (some ⟨t, 0, none⟩)] w fun e w' => e = .returned (.tuple #[]) ∧ Post B w t 5 r kv lv hv w' := by
  have c0 := h.c0
  have c2 := h.c2
  have c4 := h.c4
  have f0 := h.fz 0
  have f2 := h.fz 2
  have f4 := h.fz 4
  have HR : Hid (Raw w t st (r.length + 1) o dv kv lv hv xv yv) := h
  have HSS : Hid (Stk B w o dv (b :: r)) := hS
  have HX : Hid _ := hx
  have HY : Hid _ := hy
  clear h hS hx hy
  by_cases hL : r.length < 64
  · have h64 : decide ((64 : Int) ≤ (r.length : Int)) = false := by simp; omega
    go_enter Try.func21, Try.ntmps21
    go_wp2
    go_end0
    refine ⟨rfl, o, dv, xv, yv, (HR.out.s2 r.length).s0 5, ?_, ((Below.refl B w).setCell hBt _).setCell hBt _, HX.out, HY.out⟩
    have h1 := (HSS.out.set HR.out 2 (.int .i64 r.length)).set (HR.out.s2 r.length) 0 (.int .u8 5)
    refine ⟨h1.1, fun j hj hjr => ?_, ?_⟩
    · rw [h1.2.1 j hj (by simp; omega), rev_below _ _ _ hjr]
    · have h2 := h1.2.2
      have e1 : (b :: r).length - 64 = r.length - 64 := by simp; omega
      have e2 : (b :: r).reverse.drop 64 = r.reverse.drop 64 := by
        rw [List.drop_eq_nil_of_le (by simp; omega), List.drop_eq_nil_of_le (by simp; omega)]
      rw [e1, e2] at h2
      exact h2
  · have h64 : decide ((64 : Int) ≤ (r.length : Int)) = true := by simp; omega
    have hrow := HSS.out.2.2
    rw [drop_rev b r (by omega), List.map_append] at hrow
    have e : (b :: r).length - 64 = (r.length - 64) + 1 := by simp; omega
    rw [e] at hrow
    obtain ⟨g, cap, rfl, hcell, hcap, hmax⟩ := deep_last hrow
    have hm : cap ≤ 9223372036854775807 := hmax
    obtain ⟨m, hm64⟩ : ∃ m, r.length = m + 64 := ⟨r.length - 64, by omega⟩
    have em : r.length - 64 = m := by omega
    rw [em] at hrow c4 hcap HR HSS
    have HRow : Hid (w.ownsRow B 5 1 (.slice (some ⟨g, 0, none⟩) (m + 1) cap) (m + 1) ((r.reverse.drop 64).map bracket ++ [b].map bracket)) := hrow
    have HE : Hid (r.length = m + 64) := hm64
    rw [hm64] at c2 h64
    have hmb : m ≤ 10000 := by omega
    clear hrow e hcell hmax hm64 em hL hr
    go_enter Try.func21, Try.ntmps21
    go_wp2
    go_region
    go_wp2
    go_end0
    have hx0 : ((r.reverse.drop 64).map bracket).length = m := by simp [HE.out]
    refine ⟨rfl, o, .slice (some ⟨g, 0, none⟩) m cap, xv, yv, ?_, ?_, ?_, HX.out, HY.out⟩
    · have h3 := ((HR.out.s2 r.length).s4 (.slice (some ⟨g, 0, none⟩) m cap)).s0 5
      rw [HE.out] at h3 ⊢
      exact h3
    · have h1 := ((HSS.out.set HR.out 2 (.int .i64 ((m + 64 : Nat) : Int))).set (HR.out.s2 (m + 64)) 4 (.slice (some ⟨g, 0, none⟩) m cap)).set ((HR.out.s2 (m + 64)).s4 (.slice (some ⟨g, 0, none⟩) m cap)) 0 (.int .u8 5)
      refine ⟨h1.1, fun j hj hjr => ?_, ?_⟩
      · have h2 := h1.2.1 j hj (by simp; omega)
        rw [h2, rev_below _ _ _ hjr]
      · have h2 := h1.2.2
        have e1 : (b :: r).length - 64 = m + 1 := by simp [HE.out]
        rw [e1, drop_rev b r (by rw [HE.out]; omega), List.map_append] at h2
        have e2 : r.length - 64 = m := by rw [HE.out]; omega
        rw [e2]
        exact ownsRow_pop (by omega) h2
    · exact ((((Below.refl B w).setCell (p := ⟨t, 2, none⟩) hBt _).setCell (p := ⟨t, 4, none⟩) hBt _).setCell (p := ⟨t, 0, none⟩) hBt _).drew

def bopen (b : Bool) : Int := if b then 123 else 91

set_option maxRecDepth 10000 in
set_option maxHeartbeats 1600000 in
theorem push28 (B : Nat) (w : World) (t : Nat) (st : Int) (o : Nat) (dv kv lv hv xv yv : Value) (b : Bool) (r : List Bool) (h : Raw w t st r.length o dv kv lv hv xv yv) (hS : Stk B w o dv r)
    (hBt : B ≤ t) (hx : ∃ x : Int, xv = .int .i64 x) (hy : ∃ y : Int, yv = .int .i64 y) (hr : r.length ≤ 10000) :
    Calls Try.prog 28 #[.pointer (some ⟨t, 0, none⟩), .int .u8 (bopen b)] w fun e w' => e = .returned (.tuple #[]) ∧ Post B w t st (b :: r) kv lv hv w' := by
  have c2 := h.c2
  have c3 := h.c3
  have c4 := h.c4
  have f2 := h.fz 2
  have f3 := h.fz 3
  have f4 := h.fz 4
  have HR : Hid (Raw w t st r.length o dv kv lv hv xv yv) := h
  have HSS : Hid (Stk B w o dv r) := hS
  have HX : Hid _ := hx
  have HY : Hid _ := hy
  have ho := hS.1
  clear h hS hx hy
  by_cases hL : r.length < 64
  · have h64 : decide ((64 : Int) ≤ (r.length : Int)) = false := by simp; omega
    have close : ∀ (w1 : World) (v : Int) (o' : Nat), v = (o' : Int) → o' < 18446744073709551616 → (∀ i, i < 64 → o'.testBit i = if r.length = i then b else o.testBit i) → Below B w w1 → Raw w1 t st r.length o dv kv lv hv xv yv → Stk B w1 o dv r →
        Post B w t st (b :: r) kv lv hv ((w1.setCell ⟨t, 3, none⟩ (.int .u64 v)).setCell ⟨t, 2, none⟩ (.int .i64 ((r.length + 1 : Nat) : Int))) := by
      intro w1 v o' hv' ho' hbit hbel hraw hstk
      subst hv'
      refine ⟨o', dv, xv, yv, (hraw.s3 o').s2 (r.length + 1), ?_, (hbel.setCell (p := ⟨t, 3, none⟩) hBt _).setCell (p := ⟨t, 2, none⟩) hBt _, HX.out, HY.out⟩
      have h1 := (hstk.set hraw 3 (.int .u64 o')).set (hraw.s3 o') 2 (.int .i64 ((r.length + 1 : Nat) : Int))
      refine ⟨ho', fun j hj hjr => ?_, ?_⟩
      · rw [hbit j hj]
        by_cases hj2 : r.length = j
        · subst hj2
          rw [if_pos rfl, rev_last]
        · rw [if_neg hj2, h1.2.1 j hj (by simp at hjr; omega), rev_below _ _ _ (by simp at hjr; omega)]
      · have h2 := h1.2.2
        have e1 : (b :: r).length - 64 = r.length - 64 := by simp; omega
        have e2 : (b :: r).reverse.drop 64 = r.reverse.drop 64 := by
          rw [List.drop_eq_nil_of_le (by simp; omega), List.drop_eq_nil_of_le (by simp; omega)]
        rw [e1, e2]
        exact h2
    have HC : Hid _ := close
    clear close
    cases b
    · obtain ⟨o', ho1, ho2, ho3⟩ := andNot_bit o r.length ho hL
      have HB1 : Hid _ := ho1
      have HB3 : Hid _ := ho3
      clear ho1 ho3
      show Calls Try.prog 28 #[.pointer (some ⟨t, 0, none⟩), .int .u8 91] w _
      go_enter Try.func28, Try.ntmps28
      go_wp2
      go_region
      go_wp2
      go_end0
      refine ⟨rfl, ?_⟩
      have h5 := HC.out w _ o' HB1.out ho2 (fun i hi => by
        rw [HB3.out i hi]
        by_cases hq : r.length = i
        · simp [hq]
        · simp [hq]) (Below.refl B w) HR.out HSS.out
      exact h5.drew
    · obtain ⟨o', ho1, ho2, ho3⟩ := or_bit o r.length ho hL
      have HB1 : Hid _ := ho1
      have HB3 : Hid _ := ho3
      clear ho1 ho3
      show Calls Try.prog 28 #[.pointer (some ⟨t, 0, none⟩), .int .u8 123] w _
      go_enter Try.func28, Try.ntmps28
      go_wp2
      go_region
      go_wp2
      go_end0
      refine ⟨rfl, ?_⟩
      have h5 := HC.out w _ o' HB1.out ho2 (fun i hi => by
        rw [HB3.out i]
        by_cases hq : r.length = i
        · simp [hq]
        · simp [hq]) (Below.refl B w) HR.out HSS.out
      exact h5.drew
  · have h64 : decide ((64 : Int) ≤ (r.length : Int)) = true := by simp; omega
    obtain ⟨ie, hi, hz0, hz1, hz2⟩ := info_parts info5
    have hlt := Box.lt (show Box w t 29 _ from HR.out)
    go_enter Try.func28, Try.ntmps28
    go_wp2_with (at_builtin; refine wpList_app1 _ rfl _ _ 22 rfl B 5 ie (.int .u8 0) 1 Try.underlying22 hi hz0 hz1 hz2 rfl _ _ _ rfl (HSS.out.2.2.alloc _) ⟨w.heap.size, 0, none⟩ (.int .u8 (bopen b)) rfl (cell_one_new _ _ _) rfl (by unfold maxLen; omega) (by omega) (by simp; omega) ?_)
    intro g3 cap3 w3 q3 g3'
    have hb3 : Below B w w3 := ((Below.refl B w).alloc (by omega) _).grown g3' (by simp; omega) (owns_ge HSS.out.2.2)
    have hr3 : Raw w3 t st r.length o dv kv lv hv xv yv := Box.grown (Box.alloc HR.out _) g3' (owns_ne HSS.out.2.2 (show Box w t 29 _ from HR.out) (by decide))
    have c2 := hr3.c2
    have c4 := hr3.c4
    have f2 := hr3.fz 2
    have f4 := hr3.fz 4
    have HR3 : Hid (Raw w3 t st r.length o dv kv lv hv xv yv) := hr3
    have HB3 : Hid (Below B w w3) := hb3
    have HQ3 : Hid (w3.ownsRow B 5 1 (.slice (some ⟨g3, 0, none⟩) (r.length - 64 + 1) cap3) (r.length - 64 + 1) ((r.reverse.drop 64).map bracket ++ [.int .u8 (bopen b)])) := by
      rw [← List.map_reverse, ← List.map_drop] at q3
      exact q3
    clear hr3 hb3 q3 g3'
    go_wp2
    go_end0
    refine ⟨rfl, o, .slice (some ⟨g3, 0, none⟩) (r.length - 64 + 1) cap3, xv, yv, ?_, ?_, ?_, HX.out, HY.out⟩
    · exact (HR3.out.s4 (.slice (some ⟨g3, 0, none⟩) (r.length - 64 + 1) cap3)).s2 (r.length + 1)
    · have hbox : Box w3 t 29 _ := HR3.out
      have hk : Kept (fun k => k = t) w3 ((w3.setCell ⟨t, 4, none⟩ (.slice (some ⟨g3, 0, none⟩) (r.length - 64 + 1) cap3)).setCell ⟨t, 2, none⟩ (.int .i64 ((r.length + 1 : Nat) : Int))) :=
        ((Kept.refl (fun k => k = t) w3).setCell (p := ⟨t, 4, none⟩) (.inl rfl) _).setCell (p := ⟨t, 2, none⟩) (.inl rfl) _
      have h1 := Kept.owns hk HQ3.out (by
        rintro g cur _ hg rfl
        exact hbox.ne hg (by decide) rfl)
      refine ⟨HSS.out.1, fun j hj hjr => ?_, ?_⟩
      · rw [HSS.out.2.1 j hj (by omega), rev_below _ _ _ (by omega)]
      · have e1 : (b :: r).length - 64 = r.length - 64 + 1 := by simp; omega
        rw [e1, drop_rev b r (by omega), List.map_append]
        exact h1
    · exact (HB3.out.setCell (p := ⟨t, 4, none⟩) hBt _).setCell (p := ⟨t, 2, none⟩) hBt _
end Go.Proofs.Qxb6612399a
