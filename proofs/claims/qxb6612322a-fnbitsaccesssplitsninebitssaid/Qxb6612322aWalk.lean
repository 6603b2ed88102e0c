/- FnBitsAccessSplitsNineBits, walked: bitsAccess, ZZbitsAccess, ZZfileAccessFields by contracts. -/
import Derived.Test.Qxb6612322aRows
import Derived.WalkKit
import Derived.WalkSpells
import Derived.Deep.QuietTactic
import Derived.BigQuiet
namespace Go.Proofs.Qxb6612322a
open Go.RowKit

theorem and7 (p : Int) (h0 : 0 ≤ p) (h1 : p ≤ 4294967295) : bits .and .u32 p 7 = p % 8 := by
  rw [u32_and p 7 h0 (by omega) (by omega) (by omega)]
  have e : p.toNat &&& (7 : Int).toNat = p.toNat % 8 := Nat.and_two_pow_sub_one_eq_mod p.toNat 3
  rw [e]; omega

/-- what bitsAccess lays into memory -/
def acc (p : Int) : Obj := .cells #[.int .u32 (p / 64 % 8), .int .u32 (p / 8 % 8), .int .u32 (p % 8), .int .u32 7, .map none, .map none] 32

set_option maxHeartbeats 400000 in
theorem bits6 (p : Int) (h0 : 0 ≤ p) (h1 : p ≤ 4294967295) (w : World) :
    Calls Try.prog 6 #[.int .u32 p] w fun e w' => e = .returned (.pointer (some ⟨w.heap.size, 0, none⟩)) ∧ w' = w.alloc (acc p) := by
  have e1 := and7 p h0 h1
  have e2 := and7 (p / 8) (by omega) (by omega)
  have e3 := and7 (p / 64) (by omega) (by omega)
  go_enter Try.func6, Try.ntmps6
  go_wp2
  go_ret
  exact ⟨rfl, rfl⟩

set_option maxHeartbeats 400000 in
theorem bits4 (p : Int) (h0 : 0 ≤ p) (h1 : p ≤ 4294967295) (w : World) :
    Calls Try.prog 4 #[.int .u32 p] w fun e w' => e = .returned (.pointer (some ⟨w.heap.size, 0, none⟩)) ∧ w' = w.alloc (acc p) := by
  go_enter Try.func4, Try.ntmps4
  go_wp2_with (go_at_call 6; refine (bits6 _ h0 h1 _).mono ?_; rintro e w' ⟨rfl, hw'⟩; rw [hw']; clear hw' w')
  go_ret
  exact ⟨rfl, rfl⟩

set_option maxHeartbeats 400000 in
theorem fields5 (b : Nat) (o g t m : Int) (w : World) (c0 : w.cell? ⟨b, 0, none⟩ = some (.int .u32 o)) (c1 : w.cell? ⟨b, 1, none⟩ = some (.int .u32 g)) (c2 : w.cell? ⟨b, 2, none⟩ = some (.int .u32 t))
    (c3 : w.cell? ⟨b, 3, none⟩ = some (.int .u32 m)) (c4 : w.cell? ⟨b, 4, none⟩ = some (.map none)) (c5 : w.cell? ⟨b, 5, none⟩ = some (.map none)) :
    Calls Try.prog 5 #[.pointer (some ⟨b, 0, none⟩)] w fun e w' => e = .returned (.tuple #[.int .u32 o, .int .u32 g, .int .u32 t, .int .u32 m, .map none, .map none]) ∧ ∃ nq, w' = w.drewN nq := by
  go_enter Try.func5, Try.ntmps5
  go_wp2
  go_quiet (fail)
  go_wp2
  exact bodyPost_ret (v := .tuple #[.int .u32 o, .int .u32 g, .int .u32 t, .int .u32 m, .map none, .map none]) (by simp [results, Try.results5, go_sem]) rfl ⟨rfl, nq, rfl⟩

theorem acc_mod (p : Int) : acc (p % 512) = acc p := by
  unfold acc
  have e1 : p % 512 / 64 % 8 = p / 64 % 8 := by omega
  have e2 : p % 512 / 8 % 8 = p / 8 % 8 := by omega
  have e3 : p % 512 % 8 = p % 8 := by omega
  rw [e1, e2, e3]

/-- the fields of what bitsAccess laid last -/
theorem fields5acc (p : Int) (w : World) :
    Calls Try.prog 5 #[.pointer (some ⟨w.heap.size, 0, none⟩)] (w.alloc (acc p)) fun e w' => e = .returned (.tuple #[.int .u32 (p / 64 % 8), .int .u32 (p / 8 % 8), .int .u32 (p % 8), .int .u32 7, .map none, .map none]) ∧ ∃ nq, w' = (w.alloc (acc p)).drewN nq := by
  unfold acc
  refine fields5 _ _ _ _ _ _ ?_ ?_ ?_ ?_ ?_ ?_ <;> (rw [World.cell?_alloc_at _ _ _ _ rfl]; rfl)

theorem grown_drewN {W w' : World} (h : Grown W w') (n : Nat) : Grown W (w'.drewN n) := h

set_option maxRecDepth 100000 in
set_option maxHeartbeats 1000000 in
theorem walk3 (p : Int) (h0 : 0 ≤ p) (h1 : p ≤ 4294967295) (w : World) :
    Calls Try.prog 3 #[.int .u32 p] w fun e w' => e = .returned (.bool true) ∧ Grown w w' := by
  have f1 := fields5acc p
  have b1 := bits4 p h0 h1 w
  have hs : p / 64 % 8 * 64 + p / 8 % 8 * 8 + p % 8 = p % 512 := by omega
  have o0 : 0 ≤ p / 64 % 8 ∧ p / 64 % 8 ≤ 7 := by omega
  have g0 : 0 ≤ p / 8 % 8 ∧ p / 8 % 8 ≤ 7 := by omega
  have t0 : 0 ≤ p % 8 ∧ p % 8 ≤ 7 := by omega
  generalize p / 64 % 8 = o at f1 hs o0
  generalize p / 8 % 8 = g at f1 hs g0
  generalize p % 8 = t at f1 hs t0
  have hne : (o * 64 + g * 8 + t != p % 512) = false := by simp [hs]
  clear hs
  go_enter Try.func3, Try.ntmps3
  go_wp2_with fail
  refine b1.mono ?_
  rintro e w' ⟨rfl, hw'⟩
  rw [hw']
  clear hw' w' b1
  go_wp2_with fail
  refine (f1 w).mono ?_
  rintro e w' ⟨rfl, nq, hw'⟩
  rw [hw']
  clear hw' w'
  go_wp2_with fail
  have hG : Grown w ((w.alloc (acc p)).drewN nq) := grown_drewN (Grown.alloc (Grown.refl _) _ _) _
  generalize (w.alloc (acc p)).drewN nq = W1 at hG ⊢
  refine (bits4 (p % 512) (by omega) (by omega) _).mono ?_
  rintro e w' ⟨rfl, hw'⟩
  rw [hw', acc_mod]
  clear hw' w'
  have f2 := f1 W1
  clear f1
  go_wp2_with fail
  refine f2.mono ?_
  rintro e w' ⟨rfl, nq', hw'⟩
  rw [hw']
  clear hw' w' f2
  go_wp2
  go_ret
  exact ⟨rfl, grown_drewN (Grown.alloc hG _ _) _⟩
end Go.Proofs.Qxb6612322a
