/- valid, ZZvalid, the law's guard, walked. -/
import Derived.Test.Qxb6612399aSh
import Derived.Deep.WholeRow
namespace Go.Proofs.Qxb6612399a
open Go.RowKit
set_option linter.unusedVariables false
def zC : Array Value := #[.int .u8 0, .int .i64 0, .int .i64 0, .int .u64 0, .slice none 0 0, .bool false, .string { data := #[] }, .int .i64 0, .int .i64 0, .int .i64 0]
def scC : Array Value := #[.int .u8 0, .int .i64 10000, .int .i64 0, .int .u64 0, .slice none 0 0, .bool false, .string { data := #[] }, .int .i64 0, .int .i64 0, .int .i64 0]
theorem zero29 (w : World) : (zeroValue 29).run Try.prog w = .ok (.agg zC) w := by kernel_rfl
theorem box29 (w : World) : (Instr.box 29 (.agg zC)).run Try.prog w = .ok (.pointer (some ⟨w.heap.size, 0, none⟩)) (w.alloc (.cells zC 29)) := by kernel_rfl
theorem info29 : (Try.prog.info? 29).map (·.size) = some 10 := by kernel_rfl
theorem sto29 (w : World) : (storeCells ⟨w.heap.size, 0, none⟩ (zC.toList.set 1 (.int .i64 10000)) 0).run Try.prog (w.alloc (.cells zC 29)) = .ok () (w.alloc (.cells scC 29)) :=
  run_storeCells_new w 29 zC scC info29 rfl (by kernel_rfl)
theorem stoA29 (w : World) : (storeCells ⟨w.heap.size, 0, none⟩ scC.toList 0).run Try.prog (w.alloc (.cells zC 29)) = .ok () (w.alloc (.cells scC 29)) :=
  run_storeCells_new w 29 zC scC info29 rfl (by kernel_rfl)
theorem lod29 (w : World) : (loadCellsFrom ⟨w.heap.size, 0, none⟩ 0 10 #[]).run Try.prog (w.alloc (.cells scC 29)) = .ok scC (w.alloc (.cells scC 29)) :=
  run_loadCellsFrom_new w 29 scC 10 rfl
theorem zCs : zC.size = 10 := rfl

theorem new10 (w : World) : Calls Try.prog 10 #[.int .i64 10000] w fun e w' => e = .returned (.agg scC) ∧ Below w.heap.size w w' := by
  have b1 := zero29
  have b2 := box29
  have b3 := sto29 w
  have b4 := zCs
  have b5 := lod29 w
  have b6 : (zC.size < 2) = False := by rw [zCs]; simp
  go_enter Try.func10, Try.ntmps10
  go_wp2
  refine bodyPost_ret (v := .agg scC) ?_ rfl ⟨rfl, (Below.refl w.heap.size w).alloc (Nat.le_refl _) _⟩
  exact results_cell_row rfl _ _ w.heap.size 29 scC (0, 0) _ rfl (heap_alloc_new w _) Try.underlying29 rfl info29
theorem ws9nil (w : World) : Calls Try.prog 9 #[.slice none 0 0, .int .i64 0] w fun e w' => e = .returned (.int .i64 0) ∧ w' = w := by
  go_enter Try.func9, Try.ntmps9
  go_wp2
  go_loop [1] (fun v => v = .int .i64 0) (fun v => 0)
  case atStart => exact rfl
  case round =>
    subst hrel
    go_wp2
    go_ret
    exact ⟨rfl, rfl⟩
theorem value8nil (w : World) : Calls Try.prog 8 #[.slice none 0 0, .int .i64 0, .int .i64 0] w fun e w' => e = .returned (.int .i64 (-1)) ∧ w' = w := by
  go_enter Try.func8, Try.ntmps8
  go_wp2_with fail
  go_ret
  exact ⟨rfl, rfl⟩
theorem ok6nil (w : World) : Calls Try.prog 6 #[.slice none 0 0] w fun e w' => e = .returned (.bool false) ∧ ∃ q, w' = w.drewN q := by
  go_enter Try.func6, Try.ntmps6
  go_wp2_with fail
  go_at_call 9
  refine (ws9nil _).mono ?_
  rintro e w' ⟨rfl, hw'⟩
  rw [hw']
  clear hw' w'
  go_wp2_with fail
  go_at_call 8
  refine (value8nil _).mono ?_
  rintro e w' ⟨rfl, hw'⟩
  rw [hw']
  clear hw' w'
  go_wp2_with fail
  go_ret
  exact ⟨rfl, 0, rfl⟩
set_option maxRecDepth 10000 in
set_option maxHeartbeats 4000000 in
theorem feed11nil (w : World) (p : Value) : Calls Try.prog 11 #[p, .slice none 0 0] w fun e w' => e = .returned (.bool true) ∧ w' = w := by
  go_enter Try.func11, Try.ntmps11
  go_wp2
  go_loop [5] (fun v => v = .int .i64 0) (fun v => 0)
  case atStart => exact rfl
  case round =>
    subst hrel
    go_wp2
    go_ret
    exact ⟨rfl, rfl⟩

theorem fin_final (s : S) : fin s.st s.stk.length = final s := by
  have h : ∀ a b : Nat, ((a : Int) == (b : Int)) = (a == b) := fun a b => by
    by_cases h : a = b
    · simp [h]
    · have : ¬ (a : Int) = (b : Int) := by omega
      rw [beq_eq_false_iff_ne.2 h, beq_eq_false_iff_ne.2 this]
  have h2 : (s.stk.length == 0) = s.stk.isEmpty := by cases s.stk <;> rfl
  simp only [fin, final]
  rw [← h s.st 5, ← h s.st 11, ← h s.st 12, ← h s.st 14, ← h s.st 17, h2]
  rfl
theorem sc_new {B : Nat} {w0 w : World} (hb : Below B w0 w) (hB : B ≤ w.heap.size) : Sc B w0 (w.alloc (.cells scC 29)) w.heap.size (mk 0 []) :=
  ⟨.bool false, .string { data := #[] }, .int .i64 0, Ext.plain 0 [] _ _ _ (by omega) (by simp) (by simp), 0, .slice none 0 0, 0, 0,
    ⟨Box.new w scC 29, ⟨by decide, fun j _ h => by simp [mk] at h, World.ownsRow_nil _ _ 5 1⟩, hb.alloc hB _, hB⟩⟩

set_option maxRecDepth 10000 in
theorem valid7 (w : World) (g n cp : Nat) (bs : List Int) (hc : Cel w g bs) (hg : g < w.heap.size) (hl : bs.length = n) (hn : n ≤ 1048576) :
    Calls Try.prog 7 #[.slice (some ⟨g, 0, none⟩) n cp] w fun e w' => e = .returned (.bool (okJ bs)) ∧ Below w.heap.size w w' := by
  have HOK : Hid (Acc (mk 0 []) bs = okJ bs) := acc_ok bs
  generalize okJ bs = R at *
  go_enter Try.func7, Try.ntmps7
  go_wp2_with fail
  go_at_call 10
  refine (new10 w).mono ?_
  rintro e w1 ⟨rfl, hb⟩
  have HS : Hid _ := sc_new hb hb.size
  have b1 := zero29
  have b2 := box29
  have b3 := stoA29 w1
  have b4 := zCs
  clear hb
  go_wp2_with fail
  go_at_call 11
  refine (feed11 w.heap.size w _ w1.heap.size g n cp bs (mk 0 []) hc hg hl hn HS.out).mono ?_
  intro e w2 hp
  rw [HOK.out] at hp
  rcases hp with ⟨rfl, hA, hb2⟩ | ⟨rfl, s, hS2, hA⟩
  · have HB : Hid (Below w.heap.size w w2) := hb2
    subst hA
    clear hb2
    go_wp2_with fail
    go_ret
    exact ⟨rfl, HB.out⟩
  · obtain ⟨kv, lv, hv, hE, o, dv, x, y, hT⟩ := hS2
    have HA : Hid (fin s.st s.stk.length = R) := by rw [hA, fin_final]; exact rfl
    have HT : Hid _ := hT
    clear hA hE hT
    go_wp2_with fail
    go_at_call 12
    refine (done12 _ _ _ _ _ _ _ _ _ _ _ HT.out.raw).mono ?_
    rintro e w' ⟨rfl, hw'⟩
    rw [hw']
    clear hw' w'
    rw [HA.out]
    go_wp2_with fail
    go_ret
    exact ⟨rfl, HT.out.bel⟩
theorem valid7nil (w : World) :
    Calls Try.prog 7 #[.slice none 0 0] w fun e w' => e = .returned (.bool false) ∧ Below w.heap.size w w' := by
  go_enter Try.func7, Try.ntmps7
  go_wp2_with fail
  go_at_call 10
  refine (new10 w).mono ?_
  rintro e w1 ⟨rfl, hb⟩
  have HS : Hid (Below w.heap.size w (w1.alloc (.cells scC 29)) ∧ Raw (w1.alloc (.cells scC 29)) w1.heap.size 0 0 0 (.slice none 0 0) (.bool false) (.string { data := #[] }) (.int .i64 0) (.int .i64 0) (.int .i64 0)) := ⟨hb.alloc hb.size _, Box.new w1 scC 29⟩
  have b1 := zero29
  have b2 := box29
  have b3 := stoA29 w1
  have b4 := zCs
  clear hb
  go_wp2_with fail
  go_at_call 11
  refine (feed11nil _ _).mono ?_
  rintro e w' ⟨rfl, hw'⟩
  rw [hw']
  clear hw' w'
  go_wp2_with fail
  go_at_call 12
  refine (done12 _ _ _ _ _ _ _ _ _ _ _ HS.out.2).mono ?_
  rintro e w' ⟨rfl, hw'⟩
  rw [hw']
  clear hw' w'
  rw [show fin 0 0 = false from rfl]
  go_wp2_with fail
  go_ret
  exact ⟨rfl, HS.out.1⟩
theorem zzvalid5 (w : World) (g n cp : Nat) (bs : List Int) (hc : Cel w g bs) (hg : g < w.heap.size) (hl : bs.length = n) (hn : n ≤ 1048576) :
    Calls Try.prog 5 #[.slice (some ⟨g, 0, none⟩) n cp] w fun e w' => e = .returned (.bool (okJ bs)) ∧ Below w.heap.size w w' := by
  go_enter Try.func5, Try.ntmps5
  go_wp2_with fail
  go_at_call 7
  refine (valid7 w g n cp bs hc hg hl hn).mono ?_
  rintro e w2 ⟨rfl, hb⟩
  go_wp2_with fail
  go_ret
  exact ⟨rfl, hb⟩
theorem zzvalid5nil (w : World) :
    Calls Try.prog 5 #[.slice none 0 0] w fun e w' => e = .returned (.bool false) ∧ Below w.heap.size w w' := by
  go_enter Try.func5, Try.ntmps5
  go_wp2_with fail
  go_at_call 7
  refine (valid7nil w).mono ?_
  rintro e w2 ⟨rfl, hb⟩
  go_wp2_with fail
  go_ret
  exact ⟨rfl, hb⟩
theorem zzb4 (a : Option Addr) (n c : Nat) (w : World) (h : n ≤ 1048576) :
    Calls Try.prog 4 #[.slice a n c] w fun e w' => e = .returned (.bool true) ∧ w' = w := by
  go_enter Try.func4, Try.ntmps4
  go_wp2
  go_ret
  exact ⟨rfl, rfl⟩
theorem zzb4no (a : Option Addr) (n c : Nat) (w : World) (h : ¬ n ≤ 1048576) (hm : n ≤ maxLen) :
    Calls Try.prog 4 #[.slice a n c] w fun e w' => e = .returned (.bool false) ∧ w' = w := by
  unfold maxLen at hm
  go_enter Try.func4, Try.ntmps4
  go_wp2
  go_ret
  exact ⟨rfl, rfl⟩
end Go.Proofs.Qxb6612399a
