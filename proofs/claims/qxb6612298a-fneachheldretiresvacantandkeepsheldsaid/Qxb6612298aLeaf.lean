/- Contracts of the library's leaves: sync/atomic's Load, Store, CompareAndSwap, sync.Mutex's TryLock and (deferred) Unlock; the horizon's 'all'. -/
import Derived.Test.Qxb6612298aBox
namespace Go.Proofs.Qxb6612298a
open Go.RowKit

theorem stP {a : Addr} {x : Option Addr} {u : Value} {w : World} (hc : w.cell? a = some u) (hz : w.frozen? a = false) :
    (callFunc 18 #[.pointer (some a), .pointer x]).run Try.prog w = .ok (.value (.tuple #[])) (w.setCell a (.pointer x)) := by
  rw [run_callFunc_extern (e := Extern.Atomic.storeT) Try.func18 (by kernel_rfl) (by kernel_rfl) (by kernel_rfl) (by kernel_rfl)]
  change (Sem.run Try.prog (do
    store (← asAddr (.pointer (some a))) (.pointer x) .atomic
    pure Extern.Atomic.none_) w).andThen _ = _
  simp [asAddr, hc, hz, run_store Try.prog w a (.pointer x) .atomic rfl, Result.andThen, Extern.Atomic.none_]
theorem ldP {a : Addr} {x : Option Addr} {w : World} (hc : w.cell? a = some (.pointer x)) :
    (callFunc 22 #[.pointer (some a)]).run Try.prog w = .ok (.value (.pointer x)) w := by
  rw [run_callFunc_extern (e := Extern.Atomic.loadT .ptr) Try.func22 (by kernel_rfl) (by kernel_rfl) (by kernel_rfl) (by kernel_rfl)]
  change (Sem.run Try.prog (do Extern.Atomic.read .ptr (← asAddr (.pointer (some a)))) w).andThen _ = _
  simp [Extern.Atomic.read, asAddr, hc, Result.andThen]
theorem casH {a : Addr} {x y : Int} {w : World} (hc : w.cell? a = some (.int .u64 x)) (hz : w.frozen? a = false) :
    (callFunc 28 #[.pointer (some a), .int .u64 x, .int .u64 y]).run Try.prog w = .ok (.value (.bool true)) (w.setCell a (.int .u64 y)) :=
  run_call_cas_hit Try.func28 (by kernel_rfl) (by kernel_rfl) (by kernel_rfl) .u64 (by kernel_rfl) hc hz
theorem casM {a : Addr} {x o y : Int} {w : World} (hc : w.cell? a = some (.int .u64 x)) (hz : w.frozen? a = false) (hne : ¬ x = o) :
    (callFunc 28 #[.pointer (some a), .int .u64 o, .int .u64 y]).run Try.prog w = .ok (.value (.bool false)) w :=
  run_call_cas_miss Try.func28 (by kernel_rfl) (by kernel_rfl) (by kernel_rfl) .u64 (by kernel_rfl) hc hz hne
theorem cas32 {a : Addr} {x y : Int} {w : World} (hc : w.cell? a = some (.int .i32 x)) (hz : w.frozen? a = false) :
    (callFunc 31 #[.pointer (some a), .int .i32 x, .int .i32 y]).run Try.prog w = .ok (.value (.bool true)) (w.setCell a (.int .i32 y)) :=
  run_call_cas_hit Try.func31 (by kernel_rfl) (by kernel_rfl) (by kernel_rfl) .i32 (by kernel_rfl) hc hz
theorem disable (w : World) : (callFunc 29 #[]).run Try.prog w = .ok (.value (.tuple #[])) w := run_call_mark0 Try.func29 (by kernel_rfl) (by kernel_rfl) (by kernel_rfl) .disable (by kernel_rfl) w
theorem enable (w : World) : (callFunc 30 #[]).run Try.prog w = .ok (.value (.tuple #[])) w := run_call_mark0 Try.func30 (by kernel_rfl) (by kernel_rfl) (by kernel_rfl) .enable (by kernel_rfl) w
theorem acquire (a : Addr) (w : World) : (callFunc 32 #[.pointer (some a)]).run Try.prog w = .ok (.value (.tuple #[])) w := run_call_marked Try.func32 (by kernel_rfl) (by kernel_rfl) (by kernel_rfl) .acquire (by kernel_rfl) a w
theorem releaseMerge (a : Addr) (w : World) : (callFunc 33 #[.pointer (some a)]).run Try.prog w = .ok (.value (.tuple #[])) w := run_call_marked Try.func33 (by kernel_rfl) (by kernel_rfl) (by kernel_rfl) .releaseMerge (by kernel_rfl) a w

theorem info27 : (Try.prog.info? 27).map (fun i => (i.zero, i.size, i.bytes)) = some (some (.slice none 0 0), 1, 24) := by kernel_rfl

/-- the pointer to a slice variable that lies as bare address: the same address -/
theorem conv33 {b : Nat} {v : Value} {fr : Nat × Nat} {w : World} (hb : w.heap[b]? = some (.cells #[v] 27 fr)) :
    (convert 37 33 (.pointer (some ⟨b, 0, none⟩))).run Try.prog w = .ok (.pointer (some ⟨b, 0, none⟩)) w := by
  have hsh : w.shape? b = some (27, 1) := by simp [World.shape?, hb]
  obtain ⟨i, hi, hz0, hz1, hz2⟩ := info_parts info27
  have hl : liesAt Try.prog Try.prog.depth 27 (1 / Try.prog.cellsOf 27) 0 27 1 = true := by kernel_rfl
  simp only [convert, run_underlying Try.underlying33, run_underlying Try.underlying37, Sem.run_bind, Result.andThen_ok]
  change Sem.run Try.prog (bind _ _) w = _
  simp [Conv.seenAt, viewAt, sizeOf, typeInfo, run_underlying Try.underlying33, run_underlying Try.underlying37, hsh, hi, hz1, variablesAt, hl, Result.andThen]
theorem conv_to {src t : TypeId} {a : Addr} {v : Value} {w : World} (hs : Try.prog.underlying src = some (.pointer t)) (hsz : (Try.prog.info? t).map (fun i => decide (i.size = 0)) = some false) (hc : w.cell? a = some v) :
    (convert src 37 (.pointer (some a))).run Try.prog w = .ok (.pointer (some a)) w := by
  obtain ⟨e, n, hsh, hlt, hsp⟩ := World.shape?_of_cell? hc
  obtain ⟨i, hi, hz0⟩ := Option.map_eq_some_iff.1 hsz
  have hz : i.size ≠ 0 := by simpa using hz0
  have hge : ¬ (n ≤ a.off) := by omega
  simp only [convert, run_underlying hs, run_underlying Try.underlying37, Sem.run_bind, Result.andThen_ok]
  change Sem.run Try.prog (bind _ _) w = _
  simp [Conv.seenAt, viewAt, cellsIn, sizeOf, typeInfo, run_underlying hs, run_underlying Try.underlying37, hi, hz, hsh, hge, Result.andThen]
theorem conv37 {b : Nat} {v : Value} {fr : Nat × Nat} {w : World} (hb : w.heap[b]? = some (.cells #[v] 27 fr)) :
    (convert 33 37 (.pointer (some ⟨b, 0, none⟩))).run Try.prog w = .ok (.pointer (some ⟨b, 0, none⟩)) w :=
  conv_to Try.underlying33 (by kernel_rfl) (v := v) (by simp [World.cell?, hb])

set_option maxHeartbeats 400000 in
theorem store12 (b c : Nat) (v u : Value) (w : World) (hc : w.cell? ⟨b, 0, none⟩ = some u) (hz : w.frozen? ⟨b, 0, none⟩ = false) (hb : w.heap[c]? = some (.cells #[v] 27 (0, 0))) :
    Calls Try.prog 12 #[.pointer (some ⟨b, 0, none⟩), .pointer (some ⟨c, 0, none⟩)] w fun e w' => e = .returned (.tuple #[]) ∧ w' = w.setCell ⟨b, 0, none⟩ (.pointer (some ⟨c, 0, none⟩)) := by
  have h1 := stP (x := some ⟨c, 0, none⟩) hc hz
  have h2 := conv37 hb
  go_enter Try.func12, Try.ntmps12
  go_wp2
  go_end0
  exact ⟨rfl, rfl⟩
set_option maxHeartbeats 400000 in
theorem load19 (b c : Nat) (v : Value) (w : World) (hc : w.cell? ⟨b, 0, none⟩ = some (.pointer (some ⟨c, 0, none⟩))) (hb : w.heap[c]? = some (.cells #[v] 27 (0, 0))) :
    Calls Try.prog 19 #[.pointer (some ⟨b, 0, none⟩)] w fun e w' => e = .returned (.pointer (some ⟨c, 0, none⟩)) ∧ w' = w := by
  have h1 := ldP hc
  have h2 := conv33 hb
  go_enter Try.func19, Try.ntmps19
  go_wp2
  go_ret
  exact ⟨rfl, rfl⟩
set_option maxHeartbeats 400000 in
theorem all13 (b c : Nat) (v : Value) (w : World) (hc : w.cell? ⟨b, 0, none⟩ = some (.pointer (some ⟨c, 0, none⟩))) (hb : w.heap[c]? = some (.cells #[v] 27 (0, 0))) :
    Calls Try.prog 13 #[.pointer (some ⟨b, 0, none⟩)] w fun e w' => e = .returned v ∧ w' = w := by
  have h3 : w.cell? ⟨c, 0, none⟩ = some v := by simp [World.cell?, hb]
  go_enter Try.func13, Try.ntmps13
  go_wp2_with (go_at_call 19; refine (load19 _ c v _ hc hb).mono ?_; rintro e w' ⟨rfl, rfl⟩)
  go_ret
  exact ⟨rfl, rfl⟩
set_option maxHeartbeats 400000 in
theorem all7 (b c : Nat) (v : Value) (w : World) (hc : w.cell? ⟨b, 0, none⟩ = some (.pointer (some ⟨c, 0, none⟩))) (hb : w.heap[c]? = some (.cells #[v] 27 (0, 0))) :
    Calls Try.prog 7 #[.pointer (some ⟨b, 0, none⟩)] w fun e w' => e = .returned v ∧ w' = w := by
  go_enter Try.func7, Try.ntmps7
  go_wp2_with (go_at_call 13; refine (all13 _ c v _ hc hb).mono ?_; rintro e w' ⟨rfl, rfl⟩)
  go_ret
  exact ⟨rfl, rfl⟩
set_option maxHeartbeats 400000 in
theorem cas25H (b : Nat) (y : Int) (w : World) (hc : w.cell? ⟨b, 0, none⟩ = some (.int .u64 0)) (hz : w.frozen? ⟨b, 0, none⟩ = false) :
    Calls Try.prog 25 #[.pointer (some ⟨b, 0, none⟩), .int .u64 0, .int .u64 y] w fun e w' => e = .returned (.bool true) ∧ w' = w.setCell ⟨b, 0, none⟩ (.int .u64 y) := by
  have h1 := casH (y := y) hc hz
  go_enter Try.func25, Try.ntmps25
  go_wp2
  go_ret
  exact ⟨rfl, rfl⟩
set_option maxHeartbeats 400000 in
theorem cas25M (b : Nat) (x y : Int) (w : World) (hc : w.cell? ⟨b, 0, none⟩ = some (.int .u64 x)) (hz : w.frozen? ⟨b, 0, none⟩ = false) (hx : ¬ x = 0) :
    Calls Try.prog 25 #[.pointer (some ⟨b, 0, none⟩), .int .u64 0, .int .u64 y] w fun e w' => e = .returned (.bool false) ∧ w' = w := by
  have h1 := casM (o := 0) (y := y) hc hz hx
  go_enter Try.func25, Try.ntmps25
  go_wp2
  go_ret
  exact ⟨rfl, rfl⟩
set_option maxHeartbeats 400000 in
theorem trylock23 (b o : Nat) (w : World) (hc : w.cell? ⟨b, o, none⟩ = some (.int .i32 0)) (hz : w.frozen? ⟨b, o, none⟩ = false) :
    Calls Try.prog 23 #[.pointer (some ⟨b, o, none⟩)] w fun e w' => e = .returned (.bool true) ∧ w' = w.setCell ⟨b, o, none⟩ (.int .i32 1) := by
  have hd := disable
  have he := enable
  have hr := acquire
  have hcv := conv_to Try.underlying80 (by kernel_rfl) (World.cell?_setCell_same (w := w) (v := .int .i32 1) (h := hc))
  have h1 := cas32 (y := 1) hc hz
  have hnot : ∀ (x : Bool) (w : World), (Op.unary .not (.bool x)).run Try.prog w = .ok (.bool (!x)) w := fun _ _ => rfl
  go_enter Try.func23, Try.ntmps23
  go_wp2
  go_ret
  exact ⟨rfl, rfl⟩
set_option maxHeartbeats 400000 in
theorem unlock24 (a : Addr) (u : FrameMode) (w : World) (hc : w.cell? a = some (.int .i32 1)) (hz : w.frozen? a = false) :
    CallsD Try.prog 24 #[.pointer (some a)] u w fun e u' w' => u' = u ∧ (e = .returned (.tuple #[]) ∧ w' = w.setCell a (.int .i32 0)) := by
  have hd := disable
  have he := enable
  have hr := releaseMerge
  have hcv := conv_to Try.underlying80 (by kernel_rfl) hc
  have hadd := run_call_add (P := Try.prog) Try.func34 (by kernel_rfl) (by kernel_rfl) (by kernel_rfl) .i32 (by kernel_rfl) (y := -1) (s := 0) hc hz (by simp [go_sem]; rfl)
  go_enter_d Try.func24, Try.ntmps24
  go_wp2
  go_end0
  go_wp2
  go_end0
  exact ⟨rfl, rfl⟩
theorem st64 {a : Addr} {y : Int} {u : Value} {w : World} (hc : w.cell? a = some u) (hz : w.frozen? a = false) :
    (callFunc 17 #[.pointer (some a), .int .u64 y]).run Try.prog w = .ok (.value (.tuple #[])) (w.setCell a (.int .u64 y)) :=
  run_call_store Try.func17 (by kernel_rfl) (by kernel_rfl) (by kernel_rfl) (by kernel_rfl) hc hz
theorem ld64 {a : Addr} {x : Int} {w : World} (hc : w.cell? a = some (.int .u64 x)) :
    (callFunc 21 #[.pointer (some a)]).run Try.prog w = .ok (.value (.int .u64 x)) w :=
  run_call_load Try.func21 (by kernel_rfl) (by kernel_rfl) (by kernel_rfl) .u64 (by kernel_rfl) hc

set_option maxHeartbeats 400000 in
theorem store11 (b : Nat) (y : Int) (u : Value) (w : World) (hc : w.cell? ⟨b, 0, none⟩ = some u) (hz : w.frozen? ⟨b, 0, none⟩ = false) :
    Calls Try.prog 11 #[.pointer (some ⟨b, 0, none⟩), .int .u64 y] w fun e w' => e = .returned (.tuple #[]) ∧ w' = w.setCell ⟨b, 0, none⟩ (.int .u64 y) := by
  have h1 := st64 (y := y) hc hz
  go_enter Try.func11, Try.ntmps11
  go_wp2
  go_end0
  exact ⟨rfl, rfl⟩
set_option maxHeartbeats 400000 in
theorem load16 (b : Nat) (y : Int) (w : World) (hc : w.cell? ⟨b, 0, none⟩ = some (.int .u64 y)) :
    Calls Try.prog 16 #[.pointer (some ⟨b, 0, none⟩)] w fun e w' => e = .returned (.int .u64 y) ∧ w' = w := by
  have h1 := ld64 hc
  go_enter Try.func16, Try.ntmps16
  go_wp2
  go_ret
  exact ⟨rfl, rfl⟩
set_option maxHeartbeats 400000 in
theorem zzb5 (a : Option Addr) (len cap : Nat) (w : World) (h : len ≤ 1048576) :
    Calls Try.prog 5 #[.slice a len cap] w fun e w' => e = .returned (.bool true) ∧ w' = w := by
  go_enter Try.func5, Try.ntmps5
  go_wp2
  go_ret
  exact ⟨rfl, rfl⟩
end Go.Proofs.Qxb6612298a
