import Derived.Test.Qxb6612358aKeys
namespace Go.Proofs.Qxb6612358a
open Go.RowKit
set_option linter.unusedVariables false

/-- a taskKeys in memory -/
def tkC (kb es : Value) : Array Value := #[.int .u64 0, kb, es, .slice none 0 0, .int .u64 0, .slice none 0 0, .slice none 0 0, .slice none 0 0, .slice none 0 0, .int .i64 0, .bool false]

set_option maxHeartbeats 1000000 in
theorem new9 (ka ea : Option Addr) (kl kc n nc : Nat) (w : World) :
    Calls Try.prog 9 #[.slice ka kl kc, .slice ea n nc] w fun e w' => e = .returned (.pointer (some ⟨w.heap.size, 0, none⟩)) ∧ w' = w.alloc (.cells (tkC (.slice ka kl kc) (.slice ea n nc)) 44) := by
  go_enter Try.func9, Try.ntmps9
  go_wp2
  go_ret
  exact ⟨rfl, rfl⟩

set_option maxHeartbeats 1000000 in
theorem key23 (t g h kl n k S E : Nat) (w : World) (hS : S + 4 ≤ E) (hE : E ≤ kl) (hkl : kl ≤ 1048576) (hk : k < n) (hn : n ≤ 1048576)
    (c1 : w.cell? ⟨t, 1, none⟩ = some (.slice (some ⟨g, 0, none⟩) kl kl)) (c2 : w.cell? ⟨t, 2, none⟩ = some (.slice (some ⟨h, 0, none⟩) n n))
    (cE : w.cell? ⟨h, k, none⟩ = some (.int .i64 E)) (cS : (k = 0 ∧ S = 0) ∨ (0 < k ∧ w.cell? ⟨h, k - 1, none⟩ = some (.int .i64 S))) :
    Calls Try.prog 23 #[.pointer (some ⟨t, 0, none⟩), .int .i64 k] w fun e w' => e = .returned (.slice (some ⟨g, S, none⟩) (E - S) (kl - S)) ∧ ∃ m, w' = w.drewN m := by
  rcases cS with ⟨rfl, rfl⟩ | ⟨hk0, cS⟩
  · have hne : ¬ kl = 0 := by omega
    go_enter Try.func23, Try.ntmps23
    go_wp2
    go_quiet (fail)
    go_wp2
    go_ret
    exact ⟨rfl, nq, rfl⟩
  · obtain ⟨j, rfl⟩ : ∃ j, k = j + 1 := ⟨k - 1, by omega⟩
    have cS' : w.cell? ⟨h, j, none⟩ = some (.int .i64 S) := cS
    clear cS
    go_enter Try.func23, Try.ntmps23
    go_wp2
    go_quiet (fail)
    go_wp2
    go_ret
    exact ⟨rfl, nq, rfl⟩

/-- the bytes of a key behind its header: where they lie -/
def NameAt (g S E : Nat) (e : Ending) : Prop := ∃ a c, e = .returned (.slice a (E - S - 4) c) ∧ (E - S - 4 = 0 ∨ a = some ⟨g, S + 4, none⟩)

set_option maxHeartbeats 1000000 in
theorem name21 (t g h kl n k S E : Nat) (w : World) (hS : S + 4 ≤ E) (hE : E ≤ kl) (hkl : kl ≤ 1048576) (hk : k < n) (hn : n ≤ 1048576)
    (c1 : w.cell? ⟨t, 1, none⟩ = some (.slice (some ⟨g, 0, none⟩) kl kl)) (c2 : w.cell? ⟨t, 2, none⟩ = some (.slice (some ⟨h, 0, none⟩) n n))
    (cE : w.cell? ⟨h, k, none⟩ = some (.int .i64 E)) (cS : (k = 0 ∧ S = 0) ∨ (0 < k ∧ w.cell? ⟨h, k - 1, none⟩ = some (.int .i64 S))) :
    Calls Try.prog 21 #[.pointer (some ⟨t, 0, none⟩), .int .i64 k] w fun e w' => NameAt g S E e ∧ ∃ m, w' = w.drewN m := by
  have hC := key23 t g h kl n k S E w hS hE hkl hk hn c1 c2 cE cS
  clear c1 c2 cE cS
  by_cases hq : kl - S = 4
  · have hz : E - S - 4 = 0 := by omega
    have HZ : Hid (E - S - 4 = 0) := hz
    clear hz
    go_enter Try.func21, Try.ntmps21
    go_wp2_with (go_at_call 23; refine hC.mono ?_; rintro e w' ⟨rfl, m, hw'⟩; rw [hw']; clear hw' w')
    go_ret
    exact ⟨⟨_, _, rfl, .inl HZ.out⟩, m, rfl⟩
  · go_enter Try.func21, Try.ntmps21
    go_wp2_with (go_at_call 23; refine hC.mono ?_; rintro e w' ⟨rfl, m, hw'⟩; rw [hw']; clear hw' w')
    go_ret
    exact ⟨⟨_, _, rfl, .inr rfl⟩, m, rfl⟩

set_option maxHeartbeats 1000000 in
theorem name10 (t g h kl n k S E : Nat) (w : World) (hS : S + 4 ≤ E) (hE : E ≤ kl) (hkl : kl ≤ 1048576) (hk : k < n) (hn : n ≤ 1048576)
    (c1 : w.cell? ⟨t, 1, none⟩ = some (.slice (some ⟨g, 0, none⟩) kl kl)) (c2 : w.cell? ⟨t, 2, none⟩ = some (.slice (some ⟨h, 0, none⟩) n n))
    (cE : w.cell? ⟨h, k, none⟩ = some (.int .i64 E)) (cS : (k = 0 ∧ S = 0) ∨ (0 < k ∧ w.cell? ⟨h, k - 1, none⟩ = some (.int .i64 S))) :
    Calls Try.prog 10 #[.pointer (some ⟨t, 0, none⟩), .int .i64 k] w fun e w' => NameAt g S E e ∧ ∃ m, w' = w.drewN m := by
  have hC := name21 t g h kl n k S E w hS hE hkl hk hn c1 c2 cE cS
  clear c1 c2 cE cS
  go_enter Try.func10, Try.ntmps10
  go_wp2_with (go_at_call 21; refine hC.mono ?_; rintro e w' ⟨⟨a, c, rfl, hd⟩, m, hw'⟩; rw [hw']; clear hw' w')
  go_ret
  exact ⟨⟨a, c, rfl, hd⟩, m, rfl⟩
end Go.Proofs.Qxb6612358a
