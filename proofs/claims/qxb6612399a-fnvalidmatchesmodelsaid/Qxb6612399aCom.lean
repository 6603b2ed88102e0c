/- What the laws over two or more slices share. -/
import Derived.Test.Qxb6612399aBox
namespace Go.Proofs.Qxb6612399a
open Go.RowKit
set_option linter.unusedVariables false

theorem info5 : (Try.prog.info? 5).map (fun i => (i.zero, i.size, i.bytes)) = some (some (.int .u8 0), 1, 1) := by kernel_rfl

theorem Ints.ofList {w : World} {g : Nat} {e : TypeId} {k : IntKind} {xs : List Int} (hb : Box w g e (xs.map (Value.int k)).toArray) : Ints w (some ⟨g, 0, none⟩) k xs :=
  Ints.ofBox hb (fun i z hz => by simp [hz])
theorem IsRow.ints {k : IntKind} {w : World} {a : Option Addr} {n cap : Nat} {zs : List Int} (h : IsRow k w a n cap zs) : Ints w a k (zs.take n) := by
  rcases h with ⟨-, rfl, -, rfl⟩ | ⟨x, rfl, hl, -, hz, hc, -⟩
  · exact .inl (by simp)
  · by_cases h0 : n = 0
    · exact .inl (by simp [h0])
    · obtain ⟨b, o, s⟩ := x
      have hc0 := hc 0 (by omega)
      have hs : s = none := by
        obtain ⟨-, -, -, -, h⟩ := World.shape?_of_cell? hc0
        cases s
        · rfl
        · simp [Addr.add] at h
      subst hs
      refine .inr ⟨b, o, rfl, fun i z hz' => ?_⟩
      have hi : i < n := by
        have := (List.getElem?_eq_some_iff.1 hz').1
        simp at this; omega
      have hci := hc i (by omega)
      rw [Addr.add_lit] at hci
      rw [hci]
      simp [hi, show i < zs.length by omega] at hz'
      simp [← hz', List.getD, show i < zs.length by omega]
theorem IsRow.wf {k : IntKind} {w : World} {a : Option Addr} {n cap : Nat} {zs : List Int} (h : IsRow k w a n cap zs) : ∀ z ∈ zs.take n, (Lit.int k z).wf = true := by
  intro z hz
  rcases h with ⟨-, rfl, -, rfl⟩ | ⟨x, rfl, hl, -, -, -, hw⟩
  · simp at hz
  · exact hw z (List.mem_of_mem_take hz)
theorem IsRow.len {k : IntKind} {w : World} {a : Option Addr} {n cap : Nat} {zs : List Int} (h : IsRow k w a n cap zs) : (zs.take n).length = n := by
  rcases h with ⟨-, rfl, -, rfl⟩ | ⟨x, rfl, hl, -, hz, -, -⟩
  · simp
  · simp; omega
theorem IsRow.below {B : Nat} {k : IntKind} {w w' : World} {a : Option Addr} {n cap : Nat} {zs : List Int} (h : IsRow k w a n cap zs) (hb : Below B w w') (hB : w.heap.size ≤ B) : IsRow k w' a n cap zs := by
  rcases h with h | ⟨x, h1, h2, h3, h4, hc, h5⟩
  · exact .inl h
  · refine .inr ⟨x, h1, h2, h3, h4, fun i hi => ?_, h5⟩
    have := hc i hi
    rw [hb.cell (Nat.lt_of_lt_of_le (cell_lt this) hB)]; exact this


end Go.Proofs.Qxb6612399a
