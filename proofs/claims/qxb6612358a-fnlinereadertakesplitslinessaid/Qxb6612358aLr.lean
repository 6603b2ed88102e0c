/- The line reader in memory: ZZnewLineReader, take, the readers of its fields. -/
import Derived.Test.Qxb6612358aCom
namespace Go.Proofs.Qxb6612358a
open Go.RowKit
set_option linter.unusedVariables false

def lrC (buf : Value) (st en : Int) (last : Value) (line begun : Int) : Array Value :=
  #[.nilIface, buf, .int .i64 st, .int .i64 en, last, .int .i64 line, .int .i64 begun, .bool false, .bool false, .int .i64 0, .string ByteArray.empty, .int .i64 0, .nilIface]

set_option maxHeartbeats 1000000 in
theorem new14 (a : Option Addr) (n c : Nat) (st en line : Int) (w : World) :
    Calls Try.prog 14 #[.slice a n c, .int .i64 st, .int .i64 en, .int .i64 line] w fun e w' => e = .returned (.pointer (some ⟨w.heap.size, 0, none⟩)) ∧ w' = w.alloc (.cells (lrC (.slice a n c) st en (.slice none 0 0) line 0) 51) := by
  go_enter Try.func14, Try.ntmps14
  go_wp2
  go_ret
  exact ⟨rfl, rfl⟩

set_option maxHeartbeats 1000000 in
theorem last16 (t : Nat) (buf last : Value) (st en line begun : Int) (w : World) (hb : Box w t 51 (lrC buf st en last line begun)) :
    Calls Try.prog 16 #[.pointer (some ⟨t, 0, none⟩)] w fun e w' => e = .returned last ∧ w' = w := by
  have c := hb.cell (i := 4) (v := last) rfl
  go_enter Try.func16, Try.ntmps16
  go_wp2
  go_ret
  exact ⟨rfl, rfl⟩
set_option maxHeartbeats 1000000 in
theorem begun17 (t : Nat) (buf last : Value) (st en line begun : Int) (w : World) (hb : Box w t 51 (lrC buf st en last line begun)) :
    Calls Try.prog 17 #[.pointer (some ⟨t, 0, none⟩)] w fun e w' => e = .returned (.int .i64 begun) ∧ w' = w := by
  have c := hb.cell (i := 6) (v := .int .i64 begun) rfl
  go_enter Try.func17, Try.ntmps17
  go_wp2
  go_ret
  exact ⟨rfl, rfl⟩
set_option maxHeartbeats 1000000 in
theorem start18 (t : Nat) (buf last : Value) (st en line begun : Int) (w : World) (hb : Box w t 51 (lrC buf st en last line begun)) :
    Calls Try.prog 18 #[.pointer (some ⟨t, 0, none⟩)] w fun e w' => e = .returned (.int .i64 st) ∧ w' = w := by
  have c := hb.cell (i := 2) (v := .int .i64 st) rfl
  go_enter Try.func18, Try.ntmps18
  go_wp2
  go_ret
  exact ⟨rfl, rfl⟩
set_option maxHeartbeats 1000000 in
theorem line19 (t : Nat) (buf last : Value) (st en line begun : Int) (w : World) (hb : Box w t 51 (lrC buf st en last line begun)) :
    Calls Try.prog 19 #[.pointer (some ⟨t, 0, none⟩)] w fun e w' => e = .returned (.int .i64 line) ∧ w' = w := by
  have c := hb.cell (i := 5) (v := .int .i64 line) rfl
  go_enter Try.func19, Try.ntmps19
  go_wp2
  go_ret
  exact ⟨rfl, rfl⟩

/-- where the line ends, one final carriage return dropped -/
def cutE (bs : List Int) (st nd : Nat) : Nat := if st < nd ∧ bs.getD (nd - 1) 0 = 13 then nd - 1 else nd
/-- the line -/
def lineL (bs : List Int) (st nd : Nat) : List Int := (bs.take (cutE bs st nd)).drop st

/-- what take leaves -/
def Took (w : World) (t : Nat) (buf : Value) (st : Nat) (en nx line : Int) (ls : List Int) (w' : World) : Prop :=
  ∃ a c, Box w' t 51 (lrC buf nx en (.slice a ls.length c) (wrap64 (line + 1)) st) ∧ Kept (fun k => k = t) w w' ∧ Ints w' a .u8 ls

theorem took (w w1 : World) (t g n st e : Nat) (en nx line begun : Int) (buf last : Value) (ls bs : List Int) (a : Option Addr) (l c : Nat) (hb : Box w t 51 (lrC buf st en last line begun)) (hl : ls.length = l)
    (hw1 : (w.setCell ⟨t, 4, none⟩ (.slice a l c)).drew = w1) (hgt : g ≠ t) (hbs : Ints w (some ⟨g, 0, none⟩) .u8 bs) (hls : ls = [] ∨ (a = some ⟨g, st, none⟩ ∧ ∀ i z, ls[i]? = some z → bs[st + i]? = some z)) :
    Took w t buf st en nx line ls (((w1.setCell ⟨t, 6, none⟩ (.int .i64 st)).setCell ⟨t, 2, none⟩ (.int .i64 nx)).setCell ⟨t, 5, none⟩ (.int .i64 (wrap64 (line + 1)))) := by
  subst hl
  have x1 : Box w1 t 51 (lrC buf st en (.slice a ls.length c) line begun) := by rw [← hw1]; exact (hb.set 4 _).drew
  have k1 : Kept (fun k => k = t) w w1 := by rw [← hw1]; exact ((Kept.refl (fun k => k = t) w).setCell (p := ⟨t, 4, none⟩) (.inl rfl) _).drew
  have kk := ((k1.setCell (p := ⟨t, 6, none⟩) (.inl rfl) (.int .i64 st)).setCell (p := ⟨t, 2, none⟩) (.inl rfl) (.int .i64 nx)).setCell (p := ⟨t, 5, none⟩) (.inl rfl) (.int .i64 (wrap64 (line + 1)))
  refine ⟨a, c, ((x1.set 6 _).set 2 _).set 5 _, kk, ?_⟩
  rcases hls with h | ⟨rfl, h⟩
  · exact .inl h
  · refine .inr ⟨g, st, rfl, fun i z hz => ?_⟩
    obtain ⟨b', o', he, hc⟩ := hbs.at (h i z hz)
    simp only [Option.some.injEq, Addr.mk.injEq, and_true] at he
    obtain ⟨rfl, rfl⟩ := he
    rw [Nat.zero_add] at hc
    rw [World.cell?_of_block (kk.block g (cell_lt hc) hgt)]
    exact hc

theorem line_at (bs : List Int) (st e : Nat) : ∀ (i : Nat) (z : Int), ((bs.take e).drop st)[i]? = some z → bs[st + i]? = some z := by
  intro i z h
  rw [List.getElem?_drop, List.getElem?_take] at h
  split at h
  · exact h
  · cases h

set_option maxHeartbeats 2000000 in
theorem take22C (t g n st nd : Nat) (nx en line begun : Int) (last : Value) (bs : List Int) (w : World) (hb : Box w t 51 (lrC (.slice (some ⟨g, 0, none⟩) n n) st en last line begun))
    (hn : n ≤ 1048576) (hl : bs.length = n) (hgt : g ≠ t) (hbs : Ints w (some ⟨g, 0, none⟩) .u8 bs) (h2 : nd ≤ n) (h1 : st < nd) (hz : ¬ bs.getD (nd - 1) 0 = 13) :
    Calls Try.prog 22 #[.pointer (some ⟨t, 0, none⟩), .int .i64 nd, .int .i64 nx] w fun e w' => e = .returned (.tuple #[]) ∧ Took w t (.slice (some ⟨g, 0, none⟩) n n) st en nx line (lineL bs st nd) w' := by
  have c1 := hb.cell (i := 1) (v := .slice (some ⟨g, 0, none⟩) n n) rfl
  have c2 := hb.cell (i := 2) (v := .int .i64 st) rfl
  have c4 := hb.cell (i := 4) (v := last) rfl
  have c5 := hb.cell (i := 5) (v := .int .i64 line) rfl
  have c6 := hb.cell (i := 6) (v := .int .i64 begun) rfl
  have f2 := hb.frozen 2
  have f4 := hb.frozen 4
  have f5 := hb.frozen 5
  have f6 := hb.frozen 6
  have HL : Hid (bs.length = n) := hl
  clear hl
  obtain ⟨q, rfl⟩ : ∃ q, nd = q + 1 := ⟨nd - 1, by omega⟩
  have hq : q < bs.length := by rw [HL.out]; omega
  have hcut : cutE bs st (q + 1) = q + 1 := by unfold cutE; rw [if_neg (fun h => hz h.2)]
  have HC : Hid _ := hcut
  obtain ⟨b', o', he, cz⟩ := hbs.at (i := q) (z := bs.getD q 0) (by simp [List.getD, hq])
  simp only [Option.some.injEq, Addr.mk.injEq, and_true] at he
  obtain ⟨rfl, rfl⟩ := he
  rw [Nat.zero_add] at cz
  simp only [Nat.add_sub_cancel] at hz
  have hz' : (bs.getD q 0 == 13) = false := by simpa using hz
  generalize bs.getD q 0 = z at cz hz hz'
  clear hcut
  go_enter Try.func22, Try.ntmps22
  go_wp2
  go_region
  have x1 := (hb.set 4 (.slice (some ⟨g, st, none⟩) (q + 1 - st) (n - st))).drew
  generalize hw1 : (w.setCell ⟨t, 4, none⟩ (.slice (some ⟨g, st, none⟩) (q + 1 - st) (n - st))).drew = w1 at x1
  have d2 := x1.cell (i := 2) (v := .int .i64 st) rfl
  have d5 := x1.cell (i := 5) (v := .int .i64 line) rfl
  have d6 := x1.cell (i := 6) (v := .int .i64 begun) rfl
  have e2 := x1.frozen 2
  have e5 := x1.frozen 5
  have e6 := x1.frozen 6
  clear c1 c2 c4 c5 c6 f2 f4 f5 f6
  go_wp2
  go_end0
  have hlen := HL.out
  refine ⟨rfl, took w w1 t g n st (q + 1) en nx line begun _ last _ bs _ _ _ hb ?_ hw1 hgt hbs ?_⟩
  · unfold lineL; rw [HC.out]; simp; omega
  · unfold lineL; rw [HC.out]
    exact .inr ⟨rfl, line_at bs st (q + 1)⟩

set_option maxHeartbeats 2000000 in
theorem take22B (t g n st nd : Nat) (nx en line begun : Int) (last : Value) (bs : List Int) (w : World) (hb : Box w t 51 (lrC (.slice (some ⟨g, 0, none⟩) n n) st en last line begun))
    (hn : n ≤ 1048576) (hl : bs.length = n) (hgt : g ≠ t) (hbs : Ints w (some ⟨g, 0, none⟩) .u8 bs) (h2 : nd ≤ n) (h1 : st < nd) (hz : bs.getD (nd - 1) 0 = 13) :
    Calls Try.prog 22 #[.pointer (some ⟨t, 0, none⟩), .int .i64 nd, .int .i64 nx] w fun e w' => e = .returned (.tuple #[]) ∧ Took w t (.slice (some ⟨g, 0, none⟩) n n) st en nx line (lineL bs st nd) w' := by
  have c1 := hb.cell (i := 1) (v := .slice (some ⟨g, 0, none⟩) n n) rfl
  have c2 := hb.cell (i := 2) (v := .int .i64 st) rfl
  have c4 := hb.cell (i := 4) (v := last) rfl
  have c5 := hb.cell (i := 5) (v := .int .i64 line) rfl
  have c6 := hb.cell (i := 6) (v := .int .i64 begun) rfl
  have f2 := hb.frozen 2
  have f4 := hb.frozen 4
  have f5 := hb.frozen 5
  have f6 := hb.frozen 6
  have HL : Hid (bs.length = n) := hl
  clear hl
  obtain ⟨q, rfl⟩ : ∃ q, nd = q + 1 := ⟨nd - 1, by omega⟩
  have hq : q < bs.length := by rw [HL.out]; omega
  have hcut : cutE bs st (q + 1) = q := by unfold cutE; rw [if_pos ⟨h1, hz⟩]; omega
  have HC : Hid _ := hcut
  obtain ⟨b', o', he, cz⟩ := hbs.at (i := q) (z := bs.getD q 0) (by simp [List.getD, hq])
  simp only [Option.some.injEq, Addr.mk.injEq, and_true] at he
  obtain ⟨rfl, rfl⟩ := he
  rw [Nat.zero_add] at cz
  simp only [Nat.add_sub_cancel] at hz
  rw [hz] at cz
  clear hcut hz
  go_enter Try.func22, Try.ntmps22
  go_wp2
  go_region
  have x1 := (hb.set 4 (.slice (some ⟨g, st, none⟩) (q - st) (n - st))).drew
  generalize hw1 : (w.setCell ⟨t, 4, none⟩ (.slice (some ⟨g, st, none⟩) (q - st) (n - st))).drew = w1 at x1
  have d2 := x1.cell (i := 2) (v := .int .i64 st) rfl
  have d5 := x1.cell (i := 5) (v := .int .i64 line) rfl
  have d6 := x1.cell (i := 6) (v := .int .i64 begun) rfl
  have e2 := x1.frozen 2
  have e5 := x1.frozen 5
  have e6 := x1.frozen 6
  clear c1 c2 c4 c5 c6 f2 f4 f5 f6
  go_wp2
  go_end0
  have hlen := HL.out
  refine ⟨rfl, took w w1 t g n st q en nx line begun _ last _ bs _ _ _ hb ?_ hw1 hgt hbs ?_⟩
  · unfold lineL; rw [HC.out]; simp; omega
  · unfold lineL; rw [HC.out]
    exact .inr ⟨rfl, line_at bs st q⟩

set_option maxHeartbeats 2000000 in
theorem take22A2 (t g n st nd : Nat) (nx en line begun : Int) (last : Value) (bs : List Int) (w : World) (hb : Box w t 51 (lrC (.slice (some ⟨g, 0, none⟩) n n) st en last line begun))
    (hn : n ≤ 1048576) (hl : bs.length = n) (hgt : g ≠ t) (hbs : Ints w (some ⟨g, 0, none⟩) .u8 bs) (h2 : nd ≤ n) (h1 : nd = st) (hnn : ¬ n = nd) :
    Calls Try.prog 22 #[.pointer (some ⟨t, 0, none⟩), .int .i64 nd, .int .i64 nx] w fun e w' => e = .returned (.tuple #[]) ∧ Took w t (.slice (some ⟨g, 0, none⟩) n n) st en nx line (lineL bs st nd) w' := by
  have c1 := hb.cell (i := 1) (v := .slice (some ⟨g, 0, none⟩) n n) rfl
  have c2 := hb.cell (i := 2) (v := .int .i64 st) rfl
  have c4 := hb.cell (i := 4) (v := last) rfl
  have c5 := hb.cell (i := 5) (v := .int .i64 line) rfl
  have c6 := hb.cell (i := 6) (v := .int .i64 begun) rfl
  have f2 := hb.frozen 2
  have f4 := hb.frozen 4
  have f5 := hb.frozen 5
  have f6 := hb.frozen 6
  have HL : Hid (bs.length = n) := hl
  clear hl
  subst h1
  have hcut : lineL bs nd nd = [] := by unfold lineL cutE; simp
  have HC : Hid _ := hcut
  clear hcut
  go_enter Try.func22, Try.ntmps22
  go_wp2
  go_region
  have x1 := (hb.set 4 (.slice (some ⟨g, nd, none⟩) 0 (n - nd))).drew
  generalize hw1 : (w.setCell ⟨t, 4, none⟩ (.slice (some ⟨g, nd, none⟩) 0 (n - nd))).drew = w1 at x1
  have d2 := x1.cell (i := 2) (v := .int .i64 nd) rfl
  have d5 := x1.cell (i := 5) (v := .int .i64 line) rfl
  have d6 := x1.cell (i := 6) (v := .int .i64 begun) rfl
  have e2 := x1.frozen 2
  have e5 := x1.frozen 5
  have e6 := x1.frozen 6
  clear c1 c2 c4 c5 c6 f2 f4 f5 f6
  go_wp2
  go_end0
  have hlen := HL.out
  refine ⟨rfl, took w w1 t g n nd nd en nx line begun _ last _ bs _ _ _ hb ?_ hw1 hgt hbs ?_⟩
  · rw [HC.out]; rfl
  · exact .inl HC.out

set_option maxHeartbeats 2000000 in
theorem take22A1 (t g n st nd : Nat) (nx en line begun : Int) (last : Value) (bs : List Int) (w : World) (hb : Box w t 51 (lrC (.slice (some ⟨g, 0, none⟩) n n) st en last line begun))
    (hn : n ≤ 1048576) (hl : bs.length = n) (hgt : g ≠ t) (hbs : Ints w (some ⟨g, 0, none⟩) .u8 bs) (h2 : nd ≤ n) (h1 : nd = st) (hnn : n = nd) :
    Calls Try.prog 22 #[.pointer (some ⟨t, 0, none⟩), .int .i64 nd, .int .i64 nx] w fun e w' => e = .returned (.tuple #[]) ∧ Took w t (.slice (some ⟨g, 0, none⟩) n n) st en nx line (lineL bs st nd) w' := by
  have c1 := hb.cell (i := 1) (v := .slice (some ⟨g, 0, none⟩) n n) rfl
  have c2 := hb.cell (i := 2) (v := .int .i64 st) rfl
  have c4 := hb.cell (i := 4) (v := last) rfl
  have c5 := hb.cell (i := 5) (v := .int .i64 line) rfl
  have c6 := hb.cell (i := 6) (v := .int .i64 begun) rfl
  have f2 := hb.frozen 2
  have f4 := hb.frozen 4
  have f5 := hb.frozen 5
  have f6 := hb.frozen 6
  have HL : Hid (bs.length = n) := hl
  clear hl
  subst h1
  have hcut : lineL bs nd nd = [] := by unfold lineL cutE; simp
  have HC : Hid _ := hcut
  clear hcut
  subst hnn
  go_enter Try.func22, Try.ntmps22
  go_wp2
  go_region
  have x1 := (hb.set 4 (.slice (some ⟨g, 0, none⟩) 0 0)).drew
  generalize hw1 : (w.setCell ⟨t, 4, none⟩ (.slice (some ⟨g, 0, none⟩) 0 0)).drew = w1 at x1
  have d2 := x1.cell (i := 2) (v := .int .i64 n) rfl
  have d5 := x1.cell (i := 5) (v := .int .i64 line) rfl
  have d6 := x1.cell (i := 6) (v := .int .i64 begun) rfl
  have e2 := x1.frozen 2
  have e5 := x1.frozen 5
  have e6 := x1.frozen 6
  clear c1 c2 c4 c5 c6 f2 f4 f5 f6
  go_wp2
  go_end0
  have hlen := HL.out
  refine ⟨rfl, took w w1 t g n n n en nx line begun _ last _ bs _ _ _ hb ?_ hw1 hgt hbs ?_⟩
  · rw [HC.out]; rfl
  · exact .inl HC.out

set_option maxHeartbeats 2000000 in
theorem take22D (t : Nat) (ba : Option Addr) (nx en line begun : Int) (last : Value) (w : World) (hb : Box w t 51 (lrC (.slice ba 0 0) 0 en last line begun)) :
    Calls Try.prog 22 #[.pointer (some ⟨t, 0, none⟩), .int .i64 0, .int .i64 nx] w fun e w' => e = .returned (.tuple #[]) ∧ Took w t (.slice ba 0 0) 0 en nx line [] w' := by
  have c1 := hb.cell (i := 1) (v := .slice ba 0 0) rfl
  have c2 := hb.cell (i := 2) (v := .int .i64 0) rfl
  have c4 := hb.cell (i := 4) (v := last) rfl
  have c5 := hb.cell (i := 5) (v := .int .i64 line) rfl
  have c6 := hb.cell (i := 6) (v := .int .i64 begun) rfl
  have f2 := hb.frozen 2
  have f4 := hb.frozen 4
  have f5 := hb.frozen 5
  have f6 := hb.frozen 6
  rcases ba with _ | x
  all_goals
    go_enter Try.func22, Try.ntmps22
    go_wp2
    go_region
  · have x1 := (hb.set 4 (.slice none 0 0)).drew
    generalize hw1 : (w.setCell ⟨t, 4, none⟩ (.slice none 0 0)).drew = w1 at x1
    have d2 := x1.cell (i := 2) (v := .int .i64 0) rfl
    have d5 := x1.cell (i := 5) (v := .int .i64 line) rfl
    have d6 := x1.cell (i := 6) (v := .int .i64 begun) rfl
    have e2 := x1.frozen 2
    have e5 := x1.frozen 5
    have e6 := x1.frozen 6
    clear c1 c2 c4 c5 c6 f2 f4 f5 f6
    go_wp2
    go_end0
    exact ⟨rfl, took w w1 t (t + 1) 0 0 0 en nx line begun _ last [] [] _ _ _ hb rfl hw1 (by omega) (.inl rfl) (.inl rfl)⟩
  · have x1 := (hb.set 4 (.slice (some x) 0 0)).drew
    generalize hw1 : (w.setCell ⟨t, 4, none⟩ (.slice (some x) 0 0)).drew = w1 at x1
    have d2 := x1.cell (i := 2) (v := .int .i64 0) rfl
    have d5 := x1.cell (i := 5) (v := .int .i64 line) rfl
    have d6 := x1.cell (i := 6) (v := .int .i64 begun) rfl
    have e2 := x1.frozen 2
    have e5 := x1.frozen 5
    have e6 := x1.frozen 6
    clear c1 c2 c4 c5 c6 f2 f4 f5 f6
    go_wp2
    go_end0
    exact ⟨rfl, took w w1 t (t + 1) 0 0 0 en nx line begun _ last [] [] _ _ _ hb rfl hw1 (by omega) (.inl rfl) (.inl rfl)⟩


/-- take, whatever the line -/
theorem take22 (t n st nd : Nat) (ba : Option Addr) (nx en line begun : Int) (last : Value) (bs : List Int) (w : World) (hb : Box w t 51 (lrC (.slice ba n n) st en last line begun))
    (hn : n ≤ 1048576) (hl : bs.length = n) (hg : bs = [] ∨ ∃ g, ba = some ⟨g, 0, none⟩ ∧ g ≠ t) (hbs : Ints w ba .u8 bs) (h1 : st ≤ nd) (h2 : nd ≤ n) :
    Calls Try.prog 22 #[.pointer (some ⟨t, 0, none⟩), .int .i64 nd, .int .i64 nx] w fun e w' => e = .returned (.tuple #[]) ∧ Took w t (.slice ba n n) st en nx line (lineL bs st nd) w' := by
  rcases hg with rfl | ⟨g, rfl, hgt⟩
  · obtain rfl : n = 0 := by simpa using hl.symm
    obtain rfl : nd = 0 := by omega
    obtain rfl : st = 0 := by omega
    have e : lineL [] 0 0 = [] := rfl
    rw [e]
    exact take22D t ba nx en line begun last w hb
  · by_cases h3 : st < nd
    · by_cases hz : bs.getD (nd - 1) 0 = 13
      · exact take22B t g n st nd nx en line begun last bs w hb hn hl hgt hbs h2 h3 hz
      · exact take22C t g n st nd nx en line begun last bs w hb hn hl hgt hbs h2 h3 hz
    · have h4 : nd = st := by omega
      by_cases h5 : n = nd
      · exact take22A1 t g n st nd nx en line begun last bs w hb hn hl hgt hbs h2 h4 h5
      · exact take22A2 t g n st nd nx en line begun last bs w hb hn hl hgt hbs h2 h4 h5

set_option maxHeartbeats 1000000 in
theorem take15 (t n st nd : Nat) (ba : Option Addr) (nx en line begun : Int) (last : Value) (bs : List Int) (w : World) (hb : Box w t 51 (lrC (.slice ba n n) st en last line begun))
    (hn : n ≤ 1048576) (hl : bs.length = n) (hg : bs = [] ∨ ∃ g, ba = some ⟨g, 0, none⟩ ∧ g ≠ t) (hbs : Ints w ba .u8 bs) (h1 : st ≤ nd) (h2 : nd ≤ n) :
    Calls Try.prog 15 #[.pointer (some ⟨t, 0, none⟩), .int .i64 nd, .int .i64 nx] w fun e w' => e = .returned (.tuple #[]) ∧ Took w t (.slice ba n n) st en nx line (lineL bs st nd) w' := by
  have hC := take22 t n st nd ba nx en line begun last bs w hb hn hl hg hbs h1 h2
  clear hl hg hbs
  go_enter Try.func15, Try.ntmps15
  go_wp2_with (go_at_call 22; refine hC.mono ?_; rintro e w' ⟨rfl, hw'⟩)
  go_end0
  exact ⟨rfl, hw'⟩
end Go.Proofs.Qxb6612358a
