/- The law FnValidMatchesModel, walked. -/
import Derived.Test.Qxb6612399aSi
namespace Go.Proofs.Qxb6612399a
open Go.RowKit
set_option linter.unusedVariables false

theorem below_drewN {B : Nat} {a w : World} (h : Below B a w) (n : Nat) : Below B a (w.drewN n) := h.trans ⟨rfl, rfl, rfl, Nat.le_refl _, fun _ _ => rfl⟩
theorem ints_one (k : IntKind) (ls : List Int) : ∀ v ∈ ls.map (Value.int k), v.oneCell' = true := by
  intro v hv
  obtain ⟨z, -, rfl⟩ := List.mem_map.1 hv
  rfl
theorem Cel.ofBox {w : World} {g : Nat} {bs : List Int} (h : Box w g 5 (bs.map (Value.int .u8)).toArray) : Cel w g bs := fun i c hi => h.cell (by simp [hi])

set_option maxRecDepth 100000 in
set_option maxHeartbeats 2000000 in
theorem walk3 (a0 : Option Addr) (n cap0 : Nat) (z0 : List Int) (w : World) (w0 : IsRow .u8 w a0 n cap0 z0) :
    Calls Try.prog 3 #[.slice a0 n cap0] w fun e w' => e = .returned (.bool true) ∧ Below w.heap.size w w' := by
  have hnot : ∀ (x : Bool) (w : World), (Op.unary .not (.bool x)).run Try.prog w = .ok (.bool (!x)) w := fun _ _ => rfl
  have hnil := fun (a : Option Addr) (l c : Nat) (w : World) => run_neq_slice_nil_any (P := Try.prog) w 22 5 a l c 0 0 Try.underlying22
  by_cases hn : n ≤ 1048576
  · have hlen := w0.len
    rcases w0 with ⟨rfl, rfl, rfl, rfl⟩ | ⟨x, rfl, hl, hm, hzl, hcell, -⟩
    · go_enter Try.func3, Try.ntmps3
      go_wp2_with fail
      go_at_call 4
      refine (zzb4 _ _ _ _ hn).mono ?_
      rintro e w' ⟨rfl, hw'⟩
      rw [hw']
      clear hw' w'
      go_wp2_with fail
      go_at_call 5
      refine (zzvalid5nil _).mono ?_
      rintro e w2 ⟨rfl, hb⟩
      go_wp2_with fail
      go_at_call 6
      refine (ok6nil _).mono ?_
      rintro e w' ⟨rfl, q, hw'⟩
      rw [hw']
      clear hw' w'
      go_wp2_with fail
      go_ret
      exact ⟨rfl, below_drewN hb _⟩
    · obtain ⟨ie, hi, hz0, hz1, hz2⟩ := info_parts info5
      go_enter Try.func3, Try.ntmps3
      go_wp2_with fail
      go_at_call 4
      refine (zzb4 _ _ _ _ hn).mono ?_
      rintro e w' ⟨rfl, hw'⟩
      rw [hw']
      clear hw' w'
      go_wp2_with (at_make; refine wpList_make_full _ rfl _ _ 22 rfl w.heap.size 5 ie (.int .u8 0) 1 Try.underlying22 hi hz0 hz1 _ _ _ _ n rfl rfl rfl rfl (by rw [hz2]; omega) (by unfold maxLen; omega) (by simp) ?_)
      intro wx o1 g1
      have hb1 := (Below.refl w.heap.size w).grown g1 (by simp) (by simp)
      obtain ⟨-, ⟨h0, -⟩ | ⟨g', cap', cur, hv', -, hbx, -, -, hcs, -, -⟩⟩ := owns_split o1
      · simp at h0
      simp only [Value.slice.injEq, Option.some.injEq, Addr.mk.injEq, and_true, true_and] at hv'
      obtain ⟨rfl, rfl⟩ := hv'
      obtain ⟨wy, hcp, hb2, hbel'⟩ := copy_all (P := Try.prog) (dT := 22) (sT := 22) (e := 5) (g := w.heap.size) (n := n) (cap := cap0) (x := x) (cs := (z0.take n).map (Value.int .u8)) Try.underlying22 (by kernel_rfl) hbx hcs (by simp; omega) (src_cells (by omega) hcell hb1) (ints_one _ _)
      have hb3 := hbel' _ _ hb1 (Nat.le_refl _)
      have HC : Hid (Cel wy w.heap.size (z0.take n)) := Cel.ofBox hb2
      have HLT : Hid (w.heap.size < wy.heap.size) := hb2.lt
      have HLE : Hid _ := hlen
      have HB : Hid _ := hb3
      clear hbel' hcell hbx hb1 o1 g1 hcs hlen hb2 hb3
      go_wp2_with fail
      go_at_call 5
      refine (zzvalid5 wy w.heap.size n n (z0.take n) HC.out HLT.out HLE.out hn).mono ?_
      rintro e w2 ⟨rfl, hb⟩
      have HB2 : Hid _ := hb
      clear hb
      go_wp2_with fail
      go_at_call 6
      refine (ok6 w.heap.size n n (z0.take n) w2 (HC.out.below HB2.out HLT.out) HLE.out hn).mono ?_
      rintro e w' ⟨rfl, q, hw'⟩
      rw [hw']
      clear hw' w'
      cases okJ (z0.take n)
      · go_wp2_with fail
        go_ret
        exact ⟨rfl, below_drewN (HB.out.trans (HB2.out.mono HB.out.size)) _⟩
      · go_wp2_with fail
        go_ret
        exact ⟨rfl, below_drewN (HB.out.trans (HB2.out.mono HB.out.size)) _⟩
  · have hm := w0.le
    clear w0
    go_enter Try.func3, Try.ntmps3
    go_wp2_with fail
    go_at_call 4
    refine (zzb4no _ _ _ _ hn hm).mono ?_
    rintro e w' ⟨rfl, hw'⟩
    rw [hw']
    clear hw' w'
    go_wp2_with fail
    go_ret
    exact ⟨rfl, Below.refl _ _⟩
end Go.Proofs.Qxb6612399a
