import Derived.Test.Qxb6612298aEach
namespace Go.Proofs.Qxb6612298a
open Go.RowKit

def Touched (hb : Nat) (ps : List (Nat × Int)) : Nat → Prop := fun k => k = hb ∨ k ∈ ps.map (·.1)

/-- between TryLock and Unlock -/
def Held1 (w : World) (hb sb : Nat) : Prop := ∃ hc, Box w hb 58 hc ∧ hc[0]? = some (.pointer (some ⟨sb, 0, none⟩)) ∧ hc[6]? = some (.int .i32 1)

theorem retire_snoc (ps : List (Nat × Int)) (p : Nat × Int) : retire (ps ++ [p]) = retire ps ++ [(p.1, if p.2 = 0 then MaxU else p.2)] := by simp [retire]

theorem Slots.set {w : World} {A D : List (Nat × Int)} {b : Nat} {f f' : Int} (h : Slots w (A ++ (b, f) :: D)) (hnd : ((A ++ (b, f) :: D).map (·.1)).Nodup) :
    Slots (w.setCell ⟨b, 0, none⟩ (.int .u64 f')) (A ++ [(b, f')] ++ D) := by
  intro p hp
  simp only [List.append_assoc, List.mem_append, List.mem_cons, List.not_mem_nil, or_false] at hp
  have hne : ∀ q, q ∈ A ∨ q ∈ D → q.1 ≠ b := by
    intro q hq hqb
    simp only [List.map_append, List.map_cons, List.nodup_append, List.nodup_cons, List.mem_map, List.mem_cons] at hnd
    rcases hq with hq | hq
    · exact hnd.2.2 q.1 ⟨q, hq, rfl⟩ b (.inl rfl) hqb
    · exact hnd.2.1.1 ⟨q, hq, hqb⟩
  rcases hp with hp | rfl | hp
  · obtain ⟨cs, h1, h2⟩ := h p (by simp [hp])
    exact ⟨cs, h1.setOther (hne p (.inl hp)) _ _, h2⟩
  · obtain ⟨cs, h1, h2⟩ := h (b, f) (by simp)
    refine ⟨_, h1.set _ _, ?_⟩
    have := (Array.getElem?_eq_some_iff.1 h2).1
    simp [this]
  · obtain ⟨cs, h1, h2⟩ := h p (by simp [hp])
    exact ⟨cs, h1.setOther (hne p (.inr hp)) _ _, h2⟩

theorem Slots.kept {S : Nat → Prop} {w w' : World} {ps : List (Nat × Int)} (h : Slots w ps) (hk : Kept S w w') (hn : ∀ p ∈ ps, ∀ cs, Box w p.1 60 cs → ¬ S p.1) : Slots w' ps := by
  intro p hp
  obtain ⟨cs, h1, h2⟩ := h p hp
  exact ⟨cs, hk.box h1 (hn p hp cs h1), h2⟩

theorem retire_fst (ps : List (Nat × Int)) : (retire ps).map (·.1) = ps.map (·.1) := by simp [retire, Function.comp_def]

theorem split_at (ps : List (Nat × Int)) (k : Nat) (h : k < ps.length) : ps.drop k = ps[k] :: ps.drop (k + 1) := List.drop_eq_getElem_cons h

theorem Slots.grown {w w' : World} {row : Option Nat} {ps : List (Nat × Int)} (h : Slots w ps) (hg : w.grownBy w' row) (hn : ∀ b cs, Box w b 60 cs → some b ≠ row) : Slots w' ps := by
  intro p hp
  obtain ⟨cs, h1, h2⟩ := h p hp
  exact ⟨cs, h1.grown hg (hn _ _ h1), h2⟩
theorem Slots.alloc {w : World} {ps : List (Nat × Int)} (h : Slots w ps) (o : Obj) : Slots (w.alloc o) ps := by
  intro p hp
  obtain ⟨cs, h1, h2⟩ := h p hp
  exact ⟨cs, h1.alloc o, h2⟩
theorem Slots.setOther {w : World} {ps : List (Nat × Int)} (h : Slots w ps) {b : Nat} (hn : ∀ b' cs, Box w b' 60 cs → b' ≠ b) (i : Nat) (v : Value) : Slots (w.setCell ⟨b, i, none⟩ v) ps := by
  intro p hp
  obtain ⟨cs, h1, h2⟩ := h p hp
  exact ⟨cs, h1.setOther (hn _ _ h1) _ _, h2⟩
theorem Kept.grown {S : Nat → Prop} {a w w' : World} {row : Option Nat} (h : Kept S a w) (hg : w.grownBy w' row) (hr : ∀ k, row = some k → a.heap.size ≤ k) : Kept S a w' :=
  ⟨hg.os.trans h.os, hg.tape.trans h.tape, hg.output.trans h.output, Nat.le_trans h.size hg.size, fun i hi hs => (hg.block i (Nat.lt_of_lt_of_le hi h.size) (fun e => by have := hr i e.symm; omega)).trans (h.block i hi hs)⟩
end Go.Proofs.Qxb6612298a
