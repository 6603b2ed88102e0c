/- What the first eachHeld leaves for the rest of FnEachHeldRetiresVacantAndKeepsHeld. -/
import Derived.Test.Qxb6612298aWalkA
namespace Go.Proofs.Qxb6612298a
open Go.RowKit

theorem held_held (ps : List (Nat × Int)) : held (held ps) = held ps := by simp [held]
theorem not_shrinks_held (ps : List (Nat × Int)) : ¬ Shrinks (held ps) := by
  unfold Shrinks; rw [held_held]; omega
theorem ptrs_retire (ps : List (Nat × Int)) : ptrs (retire ps) = ptrs ps := by simp [ptrs, retire]
theorem length_retire (ps : List (Nat × Int)) : (retire ps).length = ps.length := by simp [retire]

/-- behind the first eachHeld: the old slots show qo, the horizon's slots are qs -/
structure First (w : World) (hb rb : Nat) (ps : List (Nat × Int)) (a : Option Addr) (ls : List Int) (qo qs : List (Nat × Int)) (sb9 : Nat) (a9 : Option Addr) (c9 : Nat) (w5 : World) : Prop where
  st : St w5 hb sb9 (.slice a9 qs.length c9) qs
  row : Row w5 (some ⟨rb, 0, none⟩) 31 (ptrs qo)
  slots : Slots w5 qo
  len : qo.length = ps.length
  firsts : Row w5 a 24 (ls.map (Value.int .u64))
  below : Below w.heap.size w w5
  held : held qs = held ps
  calm : ¬ Shrinks qs
  sub : ∀ p ∈ qs, p ∈ ps
  le : qs.length ≤ ps.length
  cases : (¬ Shrinks ps ∧ qo = ps ∧ qs = ps) ∨ (Shrinks ps ∧ qo = retire ps ∧ qs = Qxb6612298a.held ps)

theorem first {w w3 w5 : World} {hb sb rb n : Nat} {ps : List (Nat × Int)} {a : Option Addr} {ls : List Int} (hst : St w3 hb sb (.slice (some ⟨rb, 0, none⟩) n n) ps) (hrow : Row w3 a 24 (ls.map (Value.int .u64))) (hb3 : Below w.heap.size w w3) (hh : w.heap.size ≤ hb) (hp : ∀ p ∈ ps, w.heap.size ≤ p.1) (haft : After w3 hb ps w5) :
    ∃ qo qs sb9 a9 c9, First w hb rb ps a ls qo qs sb9 a9 c9 w5 := by
  obtain ⟨a0', c0', hsv, rO⟩ := hst.shape
  simp only [Value.slice.injEq] at hsv
  obtain ⟨rfl, rfl, rfl⟩ := hsv
  rcases haft with ⟨hns, hb5⟩ | ⟨hsh, hk5, hsl5, sb', sv', hst5⟩
  · have hst5 := hst.below hb5 (Nat.le_refl _)
    exact ⟨ps, ps, sb, _, _, hst5, rO.below hb5 (Nat.le_refl _), hst5.slots, rfl, hrow.below hb5 (Nat.le_refl _), hb3.trans (hb5.mono hb3.size), rfl, hns, fun p h => h, Nat.le_refl _, .inl ⟨hns, rfl, rfl⟩⟩
  · obtain ⟨a9, c9, rfl, r9⟩ := hst5.shape
    refine ⟨retire ps, held ps, sb', a9, c9, hst5, ?_, hsl5, length_retire ps, hrow.kept hk5 (fun g cs hx => touched_of hst hx (by decide) (by decide)), hk5.below hb3 hb3.size ?_, held_held ps, not_shrinks_held ps, fun p h => (List.mem_filter.1 h).1, held_le ps, .inr ⟨hsh, rfl, rfl⟩⟩
    · rw [ptrs_retire]
      exact rO.kept hk5 (fun g cs hx => touched_of hst hx (by decide) (by decide))
    · intro k hk ht
      rcases ht with rfl | ht
      · omega
      · obtain ⟨p, hp', rfl⟩ := List.mem_map.1 ht
        have := hp p hp'
        omega

/-- eachHeld of a horizon that does not shrink -/
theorem each8calm (hb sb : Nat) (sv : Value) (ps : List (Nat × Int)) (w : World) (hs : St w hb sb sv ps) (hr : ∀ p ∈ ps, 0 ≤ p.2 ∧ p.2 < MaxU) (hn : ps.length ≤ 65536) (hc : ¬ Shrinks ps) :
    Calls Try.prog 8 #[.pointer (some ⟨hb, 0, none⟩)] w fun e w' => ∃ a1 c1 a2 c2, e = .returned (.tuple #[.slice a1 (held ps).length c1, .slice a2 (held ps).length c2]) ∧
      Row w' a2 24 (nums (held ps)) ∧ Below w.heap.size w w' := by
  refine (each8' hb sb sv ps w hs hr hn).mono ?_
  rintro e w' ⟨a1, c1, a2, c2, rfl, r1, r2, h⟩
  rcases h with ⟨_, h⟩ | ⟨h, _⟩
  · exact ⟨a1, c1, a2, c2, rfl, r2, h⟩
  · exact (hc h).elim

theorem nums_retire_at (ps : List (Nat × Int)) (j : Nat) (h : j < ps.length) : (nums (retire ps))[j]? = some (.int .u64 (if ps[j].2 = 0 then MaxU else ps[j].2)) := by simp [nums, retire, h]
theorem nums_at (ps : List (Nat × Int)) (j : Nat) (h : j < ps.length) : (nums ps)[j]? = some (.int .u64 ps[j].2) := by simp [nums, h]

end Go.Proofs.Qxb6612298a
