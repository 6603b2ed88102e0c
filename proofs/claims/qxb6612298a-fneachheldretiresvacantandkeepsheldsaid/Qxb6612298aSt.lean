/- The horizon's state in memory, said over a list of (slot's block, first stamp). -/
import Derived.Test.Qxb6612298aClos
namespace Go.Proofs.Qxb6612298a
open Go.RowKit

def MaxU : Int := 18446744073709551615
def held (ps : List (Nat × Int)) : List (Nat × Int) := ps.filter fun p => decide (p.2 ≠ 0)
def ptrs (ps : List (Nat × Int)) : List Value := ps.map fun p => .pointer (some ⟨p.1, 0, none⟩)
def nums (ps : List (Nat × Int)) : List Value := ps.map fun p => .int .u64 p.2
def retire (ps : List (Nat × Int)) : List (Nat × Int) := ps.map fun p => (p.1, if p.2 = 0 then MaxU else p.2)

def Slots (w : World) (ps : List (Nat × Int)) : Prop := ∀ p ∈ ps, ∃ cs, Box w p.1 60 cs ∧ cs[0]? = some (.int .u64 p.2)

/-- the horizon at block hb: its slots' variable at block sb holds the slice sv, whose elements point to the blocks of ps; the lock is free -/
structure St (w : World) (hb sb : Nat) (sv : Value) (ps : List (Nat × Int)) : Prop where
  hor : ∃ hc, Box w hb 58 hc ∧ hc[0]? = some (.pointer (some ⟨sb, 0, none⟩)) ∧ hc[6]? = some (.int .i32 0)
  box : Box w sb 27 #[sv]
  row : w.ownsRow 0 31 1 sv ps.length (ptrs ps)
  slots : Slots w ps
  nodup : (ps.map (·.1)).Nodup

theorem held_le (ps : List (Nat × Int)) : (held ps).length ≤ ps.length := List.length_filter_le _ _
theorem held_snoc (ps : List (Nat × Int)) (p : Nat × Int) : held (ps ++ [p]) = if p.2 = 0 then held ps else held ps ++ [p] := by
  unfold held
  rw [List.filter_append]
  by_cases h : p.2 = 0 <;> simp [h]
theorem ptrs_snoc (ps : List (Nat × Int)) (p : Nat × Int) : ptrs (ps ++ [p]) = ptrs ps ++ [.pointer (some ⟨p.1, 0, none⟩)] := by simp [ptrs]
theorem nums_snoc (ps : List (Nat × Int)) (p : Nat × Int) : nums (ps ++ [p]) = nums ps ++ [.int .u64 p.2] := by simp [nums]
theorem take_snoc {α : Type} (ps : List α) (k : Nat) (h : k < ps.length) : ps.take (k + 1) = ps.take k ++ [ps[k]] := List.take_succ_eq_append_getElem h

theorem Slots.below {B : Nat} {w w' : World} {ps : List (Nat × Int)} (h : Slots w ps) (hb : Below B w w') (hlt : w.heap.size ≤ B) : Slots w' ps := by
  intro p hp
  obtain ⟨cs, h1, h2⟩ := h p hp
  exact ⟨cs, h1.below hb (Nat.lt_of_lt_of_le h1.lt hlt), h2⟩
theorem owns_below {B : Nat} {w w' : World} {base : Nat} {e : TypeId} {size : Nat} {v : Value} {n : Nat} {xs : List Value} (h : w.ownsRow base e size v n xs) (hb : Below B w w') (hlt : w.heap.size ≤ B) : w'.ownsRow base e size v n xs :=
  (Kept.ofBelow (S := fun _ => False) hb hlt).owns h (fun _ _ _ _ => id)
theorem St.below {B : Nat} {w w' : World} {hb sb : Nat} {sv : Value} {ps : List (Nat × Int)} (h : St w hb sb sv ps) (hB : Below B w w') (hlt : w.heap.size ≤ B) : St w' hb sb sv ps := by
  obtain ⟨hc, h1, h2, h3⟩ := h.hor
  exact ⟨⟨hc, h1.below hB (Nat.lt_of_lt_of_le h1.lt hlt), h2, h3⟩, h.box.below hB (Nat.lt_of_lt_of_le h.box.lt hlt), owns_below h.row hB hlt, h.slots.below hB hlt, h.nodup⟩

end Go.Proofs.Qxb6612298a
