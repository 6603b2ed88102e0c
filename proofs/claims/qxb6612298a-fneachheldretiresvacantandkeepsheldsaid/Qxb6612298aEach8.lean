import Derived.Test.Qxb6612298aShr
namespace Go.Proofs.Qxb6612298a
open Go.RowKit

def Shrinks (ps : List (Nat × Int)) : Prop := 64 < ps.length ∧ 4 * (held ps).length < ps.length

/-- what eachHeld leaves of the horizon -/
def After (w : World) (hb : Nat) (ps : List (Nat × Int)) (w' : World) : Prop :=
  (¬ Shrinks ps ∧ Below w.heap.size w w') ∨ (Shrinks ps ∧ Kept (Touched hb ps) w w' ∧ Slots w' (retire ps) ∧ ∃ sb' sv', St w' hb sb' sv' (held ps))

theorem After.drew {w : World} {hb : Nat} {ps : List (Nat × Int)} {w' : World} (h : After w hb ps w') : After w hb ps w'.drew := by
  rcases h with ⟨h1, h2⟩ | ⟨h1, h2, h3, sb', sv', h4⟩
  · exact .inl ⟨h1, h2.drew⟩
  · exact .inr ⟨h1, h2.drew, h3, sb', sv', ⟨h4.hor, h4.box, h4.row, h4.slots, h4.nodup⟩⟩

def Gathered (w : World) (H : List (Nat × Int)) (v1 v2 : Value) (w' : World) : Prop :=
  w'.ownsRow w.heap.size 31 1 v1 H.length (ptrs H) ∧ w'.ownsRow w.heap.size 24 1 v2 H.length (nums H)

theorem touched_of {w : World} {hb sb : Nat} {sv : Value} {ps : List (Nat × Int)} (hs : St w hb sb sv ps) {b : Nat} {t : TypeId} {cs : Array Value} (hb' : Box w b t cs) (h1 : t ≠ 58) (h2 : t ≠ 60) : ¬ Touched hb ps b := by
  obtain ⟨hc, q1, _⟩ := hs.hor
  rintro (h | h)
  · exact hb'.ne q1 h1 h
  · obtain ⟨p, hp, hpe⟩ := List.mem_map.1 h
    obtain ⟨cs, y1, y2⟩ := hs.slots p hp
    exact hb'.ne y1 h2 hpe.symm

theorem owns_kept {w w' : World} {hb sb : Nat} {sv : Value} {ps : List (Nat × Int)} (hs : St w hb sb sv ps) (hk : Kept (Touched hb ps) w w') {base : Nat} {e : TypeId} {v : Value} {n : Nat} {xs : List Value} (h : w.ownsRow base e 1 v n xs) (h1 : e ≠ 58) (h2 : e ≠ 60) : w'.ownsRow base e 1 v n xs :=
  hk.owns h (fun _ _ _ hx => touched_of hs hx h1 h2)

/-- the end of a call of eachHeld: the gathered lists and the horizon -/
def EachEnd (w : World) (hb : Nat) (ps : List (Nat × Int)) (w' : World) : Prop :=
  EachOut w.heap.size w.heap.size (w.heap.size + 1) (held ps) w' ∧ After w hb ps w'

theorem each_end (hb sb : Nat) (sv : Value) (ps : List (Nat × Int)) (w w2 : World) (hs : St w hb sb sv ps) (hbel : Below w.heap.size w w2) (hout : EachOut w.heap.size w.heap.size (w.heap.size + 1) [] w2)
    (hr : ∀ p ∈ ps, 0 ≤ p.2 ∧ p.2 < MaxU) (hn : ps.length ≤ 65536) :
    Calls Try.prog 14 #[.pointer (some ⟨hb, 0, none⟩), .func (.func 15) #[] #[.pointer (some ⟨w.heap.size, 0, none⟩), .pointer (some ⟨w.heap.size + 1, 0, none⟩)]] w2 fun e w' => e = .returned (.tuple #[]) ∧ EachEnd w hb ps w' := by
  obtain ⟨_, ⟨rfl, h0, h0'⟩ | ⟨g, cap, cur, rfl, -⟩⟩ := owns_split hs.row
  · obtain rfl : ps = [] := List.eq_nil_of_length_eq_zero h0
    exact each14n _ _ _ hb sb w w2 hs rfl hbel hout _ (fun wr h1 h2 => ⟨h2, .inl ⟨by simp [Shrinks], h1⟩⟩)
  · refine each14 _ _ _ hb sb g cap ps w w2 hs rfl hbel hr hn (Nat.le_refl _) (by omega) hout _ (fun hno wr h1 h2 => ⟨h2, .inl ⟨hno, h1⟩⟩) ?_
    intro hyes wr h1 h2
    have hs' := hs.below h1 (Nat.le_refl _)
    refine (shrink20 hb sb g cap ps wr hs' hn).mono ?_
    rintro e w' ⟨rfl, k1, k2, k3⟩
    obtain ⟨v1, v2, x1, x2, r1, r2⟩ := h2
    exact ⟨rfl, ⟨v1, v2, k1.box x1 (touched_of hs' x1 (by decide) (by decide)), k1.box x2 (touched_of hs' x2 (by decide) (by decide)), owns_kept hs' k1 r1 (by decide) (by decide), owns_kept hs' k1 r2 (by decide) (by decide)⟩,
      .inr ⟨hyes, (Kept.ofBelow h1 (Nat.le_refl _)).trans k1, k2, k3⟩⟩

set_option maxHeartbeats 1000000 in
theorem each8 (hb sb : Nat) (sv : Value) (ps : List (Nat × Int)) (w : World) (hs : St w hb sb sv ps)
    (hr : ∀ p ∈ ps, 0 ≤ p.2 ∧ p.2 < MaxU) (hn : ps.length ≤ 65536) :
    Calls Try.prog 8 #[.pointer (some ⟨hb, 0, none⟩)] w fun e w' => ∃ v1 v2, e = .returned (.tuple #[v1, v2]) ∧ Gathered w (held ps) v1 v2 w' ∧ After w hb ps w' := by
  have hmf : ∀ (fn : Fn) (first cap : Array Value) (w : World), (Instr.makeFunc fn first cap).run Try.prog w = .ok (.func fn first cap) w := fun _ _ _ _ => rfl
  have b2 : Below w.heap.size w ((w.alloc (.cells #[.slice none 0 0] 27)).alloc (.cells #[.slice none 0 0] 22)) := ((Below.refl _ _).alloc (Nat.le_refl _) _).alloc (by simp) _
  have o2 : EachOut w.heap.size w.heap.size (w.heap.size + 1) [] ((w.alloc (.cells #[.slice none 0 0] 27)).alloc (.cells #[.slice none 0 0] 22)) :=
    ⟨_, _, (Box.new w _ _).alloc _, by have := Box.new (w.alloc (.cells #[.slice none 0 0] 27)) #[.slice none 0 0] 22; simpa using this, World.ownsRow_nil _ _ _ _, World.ownsRow_nil _ _ _ _⟩
  have hC := each_end hb sb sv ps w _ hs b2 o2 hr hn
  have HC := hC
  clear hC b2 o2
  go_enter Try.func8, Try.ntmps8
  go_wp2_with (go_at_call 14; refine HC.mono ?_; rintro e w' ⟨rfl, ⟨v1, v2, x1, x2, r1, r2⟩, haft⟩)
  have c1 := x1.cell (i := 0) (v := v1) rfl
  have c2 := x2.cell (i := 0) (v := v2) rfl
  clear HC hs hr
  go_region
  all_goals (try go_wp2)
  all_goals go_ret2
  all_goals refine ⟨_, _, rfl, ⟨r1.drew, r2.drew⟩, ?_⟩
  all_goals exact After.drew haft
end Go.Proofs.Qxb6612298a
