/- Blocks of memory as the walks speak of them: 'Box w b t cs': block b holds the cells cs, of element type t, none frozen. -/
import Derived.Test.Qxb6612399aRows
import Derived.Test.Qxb6612399aLaw
import Derived.WalkKit
import Derived.WalkSpells
import Derived.WalkSmall
import Derived.Laws.CopyRow
import Derived.OpenShut
import Derived.Deep.DeepCutAuto
import Derived.Deep.QuietTactic
import Derived.BigQuiet
namespace Go.Proofs.Qxb6612399a
open Go.RowKit

def Box (w : World) (b : Nat) (t : TypeId) (cs : Array Value) : Prop := w.heap[b]? = some (.cells cs t (0, 0))

section
variable {w w' : World} {b b' : Nat} {t t' : TypeId} {cs cs' : Array Value}

theorem Box.lt (h : Box w b t cs) : b < w.heap.size := (Array.getElem?_eq_some_iff.1 h).1
theorem Box.cell (h : Box w b t cs) {i : Nat} {v : Value} (hv : cs[i]? = some v) : w.cell? ⟨b, i, none⟩ = some v := by
  unfold Box at h; simp [World.cell?, h, hv]
theorem Box.frozen (h : Box w b t cs) (i : Nat) : w.frozen? ⟨b, i, none⟩ = false := by
  unfold Box at h; simp [World.frozen?, h]
theorem Box.new (w : World) (cs : Array Value) (t : TypeId) : Box (w.alloc (.cells cs t)) w.heap.size t cs := by
  unfold Box; show (w.heap.push _)[w.heap.size]? = _; simp
theorem Box.alloc (h : Box w b t cs) (o : Obj) : Box (w.alloc o) b t cs := by
  have hb := h.lt
  unfold Box at *
  rw [Below.heap_alloc _ _ _ hb]; exact h
theorem Box.set (h : Box w b t cs) (i : Nat) (v : Value) : Box (w.setCell ⟨b, i, none⟩ v) b t (cs.setIfInBounds i v) := by
  unfold Box at *
  simp [World.setCell, Array.getElem?_modify, h]
theorem Box.setOther (h : Box w b t cs) (hne : b ≠ b') (i : Nat) (v : Value) : Box (w.setCell ⟨b', i, none⟩ v) b t cs := by
  unfold Box at *
  rw [Below.heap_setCell _ _ _ _ hne]; exact h
theorem Box.drew (h : Box w b t cs) : Box w.drew b t cs := h
theorem Box.ne (h : Box w b t cs) (h' : Box w b' t' cs') (ht : t ≠ t') : b ≠ b' := by
  rintro rfl
  unfold Box at *
  rw [h] at h'
  simp at h'
  exact ht h'.2
theorem Box.uniq (h : Box w b t cs) (h' : Box w b t' cs') : cs = cs' := by
  unfold Box at *
  rw [h] at h'
  simp at h'
  exact h'.1
theorem Box.below {B : Nat} (h : Box w b t cs) (hb : Below B w w') (hlt : b < B) : Box w' b t cs := by
  unfold Box at *
  rw [hb.block b hlt]; exact h
end

/-- All blocks of w but those of S are in w' as they were. -/
structure Kept (S : Nat → Prop) (w w' : World) : Prop where
  os : w'.os = w.os
  tape : w'.tape = w.tape
  output : w'.output = w.output
  size : w.heap.size ≤ w'.heap.size
  block : ∀ k, k < w.heap.size → ¬ S k → w'.heap[k]? = w.heap[k]?

section
variable {S S' : Nat → Prop} {w w' w'' : World}

theorem Kept.refl (S : Nat → Prop) (w : World) : Kept S w w := ⟨rfl, rfl, rfl, Nat.le_refl _, fun _ _ _ => rfl⟩
theorem Kept.trans (h : Kept S w w') (k : Kept S w' w'') : Kept S w w'' :=
  ⟨k.os.trans h.os, k.tape.trans h.tape, k.output.trans h.output, Nat.le_trans h.size k.size,
    fun i hi hs => (k.block i (Nat.lt_of_lt_of_le hi h.size) hs).trans (h.block i hi hs)⟩
/-- the second step may turn what S names, and whatever is new -/
theorem Kept.then (h : Kept S w w') (k : Kept S' w' w'') (hs : ∀ i, i < w.heap.size → S' i → S i) : Kept S w w'' :=
  ⟨k.os.trans h.os, k.tape.trans h.tape, k.output.trans h.output, Nat.le_trans h.size k.size,
    fun i hi hn => (k.block i (Nat.lt_of_lt_of_le hi h.size) (fun hx => hn (hs i hi hx))).trans (h.block i hi hn)⟩
theorem Kept.drew (h : Kept S w w') : Kept S w w'.drew := ⟨h.os, h.tape, h.output, h.size, h.block⟩
theorem Kept.alloc (h : Kept S w w') (o : Obj) : Kept S w (w'.alloc o) :=
  ⟨h.os, h.tape, h.output, Nat.le_trans h.size (by simp), fun i hi hs => (Below.heap_alloc _ _ _ (Nat.lt_of_lt_of_le hi h.size)).trans (h.block i hi hs)⟩
theorem Kept.setCell (h : Kept S w w') {p : Addr} (hp : S p.block ∨ w.heap.size ≤ p.block) (u : Value) : Kept S w (w'.setCell p u) :=
  ⟨h.os, h.tape, h.output, Nat.le_trans h.size (by simp [World.setCell]), fun i hi hs => (Below.heap_setCell _ _ _ _ (by rintro rfl; rcases hp with hp | hp; exact hs hp; omega)).trans (h.block i hi hs)⟩
theorem Kept.ofBelow {B : Nat} (h : Below B w w') (hB : w.heap.size ≤ B) : Kept S w w' :=
  ⟨h.os, h.tape, h.output, h.size, fun i hi _ => h.block i (by omega)⟩
theorem Kept.box (h : Kept S w w') {b : Nat} {t : TypeId} {cs : Array Value} (hb : Box w b t cs) (hn : ¬ S b) : Box w' b t cs := by
  have hlt := hb.lt
  unfold Box at *
  rw [h.block b hlt hn]; exact hb
theorem Kept.owns (h : Kept S w w') {base : Nat} {e : TypeId} {size : Nat} {v : Value} {n : Nat} {xs : List Value} (ho : w.ownsRow base e size v n xs)
    (hn : ∀ g cs, v.ownBlock = some g → Box w g e cs → ¬ S g) : w'.ownsRow base e size v n xs := by
  refine ⟨ho.1, ?_⟩
  rcases ho.2 with hv | ⟨g, cap, cur, rfl, hb, hg, rest⟩
  · exact .inl hv
  · refine .inr ⟨g, cap, cur, rfl, hb, ?_, rest⟩
    have hlt := (Array.getElem?_eq_some_iff.1 hg).1
    rw [h.block g hlt (hn g cur rfl hg)]
    exact hg
/-- at the end: of what was there before nothing has turned -/
theorem Kept.below {B : Nat} {a : World} (h : Kept S w w') (hb : Below B a w) (hB : B ≤ w.heap.size) (hs : ∀ k, k < B → ¬ S k) : Below B a w' :=
  hb.trans ⟨h.os, h.tape, h.output, h.size, fun k hk => h.block k (by omega) (hs k hk)⟩
end

/-- what an owned row is, its block named -/
theorem owns_split {w : World} {base : Nat} {e : TypeId} {v : Value} {n : Nat} {xs : List Value} (h : w.ownsRow base e 1 v n xs) :
    xs.length = n ∧ ((v = .slice none 0 0 ∧ n = 0 ∧ xs = []) ∨
      ∃ g cap cur, v = .slice (some ⟨g, 0, none⟩) n cap ∧ base ≤ g ∧ Box w g e cur ∧ n ≤ cap ∧ cap ≤ maxLen ∧ cur.size = cap ∧ cur.toList.take n = xs ∧ ∀ (i : Nat) (u : Value), xs[i]? = some u → cur[i]? = some u) := by
  obtain ⟨h1, h2⟩ := h
  simp only [Nat.mul_one] at h1
  refine ⟨h1, ?_⟩
  rcases h2 with ⟨rfl, rfl⟩ | ⟨g, cap, cur, rfl, hb, hg, hn, hm, hs, ht⟩
  · exact .inl ⟨rfl, rfl, List.eq_nil_of_length_eq_zero h1⟩
  · simp only [Nat.mul_one] at hs ht
    refine .inr ⟨g, cap, cur, rfl, hb, hg, hn, hm, hs, ht, ?_⟩
    intro i u hu
    rw [← ht, List.getElem?_take] at hu
    split at hu
    · simpa using hu
    · cases hu

theorem owns_mk {w : World} {base g cap : Nat} {e : TypeId} {cur : Array Value} {n : Nat} {xs : List Value} (hb : base ≤ g) (hg : Box w g e cur) (hn : n ≤ cap) (hm : cap ≤ maxLen) (hs : cur.size = cap) (ht : cur.toList.take n = xs) :
    w.ownsRow base e 1 (.slice (some ⟨g, 0, none⟩) n cap) n xs := by
  refine ⟨?_, .inr ⟨g, cap, cur, rfl, hb, hg, hn, hm, by simpa using hs, by simpa using ht⟩⟩
  rw [← ht]; simp; omega

theorem owns_base {w : World} {base base' : Nat} {e : TypeId} {size : Nat} {v : Value} {n : Nat} {xs : List Value} (h : w.ownsRow base e size v n xs) (hb : base' ≤ base) : w.ownsRow base' e size v n xs := by
  refine ⟨h.1, ?_⟩
  rcases h.2 with hv | ⟨g, cap, cur, rfl, hg, rest⟩
  · exact .inl hv
  · exact .inr ⟨g, cap, cur, rfl, by omega, rest⟩


theorem owns_ge {w : World} {base : Nat} {e : TypeId} {size : Nat} {v : Value} {n : Nat} {xs : List Value} (h : w.ownsRow base e size v n xs) : ∀ g, v.ownBlock = some g → base ≤ g := by
  intro g hg
  rcases h.2 with ⟨rfl, _⟩ | ⟨g', cap, cur, rfl, hb, _⟩
  · simp [Value.ownBlock] at hg
  · simp [Value.ownBlock] at hg; omega
theorem owns_ne {w : World} {base : Nat} {e : TypeId} {size : Nat} {v : Value} {n : Nat} {xs : List Value} (h : w.ownsRow base e size v n xs) {b : Nat} {t : TypeId} {cs : Array Value} (hb : Box w b t cs) (ht : t ≠ e) : some b ≠ v.ownBlock := by
  intro hg
  rcases h.2 with ⟨rfl, _⟩ | ⟨g', cap, cur, rfl, _, hh, _⟩
  · simp [Value.ownBlock] at hg
  · simp [Value.ownBlock] at hg
    subst hg
    exact hb.ne (show Box w b e cur from hh) ht rfl
theorem Box.grown {w w' : World} {b : Nat} {t : TypeId} {cs : Array Value} {row : Option Nat} (h : Box w b t cs) (hg : w.grownBy w' row) (hn : some b ≠ row) : Box w' b t cs := by
  have hlt := h.lt
  unfold Box at *
  rw [hg.block b hlt hn]; exact h
theorem owns_ne2 {w : World} {base base' : Nat} {e e' : TypeId} {size size' : Nat} {v v' : Value} {n n' : Nat} {xs xs' : List Value} (h : w.ownsRow base e size v n xs) (h' : w.ownsRow base' e' size' v' n' xs') (ht : e ≠ e') : v.ownBlock = none ∨ v.ownBlock ≠ v'.ownBlock := by
  rcases h.2 with ⟨rfl, _⟩ | ⟨g, cap, cur, rfl, _, hh, _⟩
  · exact .inl rfl
  · exact .inr (owns_ne h' (show Box w g e cur from hh) ht)
theorem owns_set {w : World} {base : Nat} {e : TypeId} {size : Nat} {v : Value} {n : Nat} {xs : List Value} (h : w.ownsRow base e size v n xs) {b : Nat} (hn : some b ≠ v.ownBlock) (i : Nat) (u : Value) : (w.setCell ⟨b, i, none⟩ u).ownsRow base e size v n xs := by
  refine ⟨h.1, ?_⟩
  rcases h.2 with hv | ⟨g, cap, cur, rfl, hg, hh, rest⟩
  · exact .inl hv
  · refine .inr ⟨g, cap, cur, rfl, hg, ?_, rest⟩
    rw [Below.heap_setCell _ _ _ _ (by intro e; subst e; exact hn rfl)]; exact hh

/-- append of one element to a row that the call owns: the walk's law. -/
theorem wpList_app1 {P : Program} (w : World) {ops : Array Oper} {rest : List Oper} {o : Oper} {a : Act} {Q : Exit → Act → World → Prop} (hgd : o.guard = none) (s x : Operand) (t : TypeId)
    (ho : o.op = .call { callee := .builtin .append, args := #[s, x], argTypes := #[t, t] })
    (base : Nat) (e : TypeId) (i : TypeInfo) (z : Value) (bytes : Nat) (ht : P.underlying t = some (.slice e)) (hi : P.info? e = some i) (hz : i.zero = some z)
    (hsize : i.size = 1) (hby : i.bytes = bytes) (hzs : z.cells.size = 1)
    (v : Value) (n : Nat) (xs : List Value) (hs : a.eval s = v) (hown : w.ownsRow base e 1 v n xs)
    (ad : Addr) (nv : Value) (hx : a.eval x = .slice (some ad) 1 1) (hnews : ∀ j u, [nv][j]? = some u → w.cell? (ad.add j) = some u) (h1 : nv.oneCell' = true)
    (h63 : n + 1 ≤ maxLen) (hbytes : (n + 1) * bytes ≤ 140737488355328) (hbase : base ≤ w.heap.size)
    (h : ∀ g cap w', w'.ownsRow base e 1 (.slice (some ⟨g, 0, none⟩) (n + 1) cap) (n + 1) (xs ++ [nv]) → w.grownBy w' v.ownBlock → wpList P ops Q rest (a.put o.dst (.slice (some ⟨g, 0, none⟩) (n + 1) cap)) w') :
    wpList P ops Q (o :: rest) a w := by
  refine wpList_append_own w hgd s x t ho base e i z 1 bytes ht hi hz hsize hby hzs (by omega) v n xs hs hown ad 1 1 [nv] hx rfl hnews (by simpa using h1) h63 hbytes hbase ?_
  intro v' w' q g hn
  rcases q.2 with ⟨_, h0⟩ | ⟨g', cap, cur, rfl, _⟩
  · omega
  · exact h g' cap w' q g


/-- what the walk is told of a slice of integers that came in -/
def IsRow (k : IntKind) (w : World) (a : Option Addr) (len cap : Nat) (zs : List Int) : Prop :=
  (a = none ∧ len = 0 ∧ cap = 0 ∧ zs = []) ∨
  ∃ x, a = some x ∧ len ≤ cap ∧ cap ≤ maxLen ∧ zs.length = cap ∧ (∀ i, i < zs.length → w.cell? (x.add i) = some (.int k (zs.getD i 0))) ∧ ∀ n ∈ zs, (Lit.int k n).wf = true

theorem IsRow.le {k : IntKind} {w : World} {a : Option Addr} {n cap : Nat} {zs : List Int} (h : IsRow k w a n cap zs) : n ≤ maxLen := by
  rcases h with ⟨-, rfl, -⟩ | ⟨x, -, h1, h2, -⟩
  · exact Nat.zero_le _
  · omega

/-- the slice at a bears the integers xs -/
def Ints (w : World) (a : Option Addr) (k : IntKind) (xs : List Int) : Prop :=
  xs = [] ∨ ∃ b o, a = some ⟨b, o, none⟩ ∧ ∀ (i : Nat) (z : Int), xs[i]? = some z → w.cell? ⟨b, o + i, none⟩ = some (.int k z)

theorem Ints.at {w : World} {a : Option Addr} {k : IntKind} {xs : List Int} (h : Ints w a k xs) {i : Nat} {z : Int} (hz : xs[i]? = some z) :
    ∃ b o, a = some ⟨b, o, none⟩ ∧ w.cell? ⟨b, o + i, none⟩ = some (.int k z) := by
  rcases h with rfl | ⟨b, o, rfl, h⟩
  · simp at hz
  · exact ⟨b, o, rfl, h i z hz⟩
theorem cell_lt {w : World} {p : Addr} {v : Value} (h : w.cell? p = some v) : p.block < w.heap.size := by
  unfold World.cell? at h
  split at h
  · rename_i hh; exact (Array.getElem?_eq_some_iff.1 hh).1
  · cases h
theorem Ints.below {B : Nat} {w w' : World} {a : Option Addr} {k : IntKind} {xs : List Int} (h : Ints w a k xs) (hb : Below B w w') (hB : w.heap.size ≤ B) : Ints w' a k xs := by
  rcases h with rfl | ⟨b, o, rfl, h⟩
  · exact .inl rfl
  · refine .inr ⟨b, o, rfl, fun i z hz => ?_⟩
    have hc := h i z hz
    rw [hb.cell (p := ⟨b, o + i, none⟩) (Nat.lt_of_lt_of_le (cell_lt hc) hB)]
    exact hc
theorem Ints.drewN {w : World} {a : Option Addr} {k : IntKind} {xs : List Int} (h : Ints w a k xs) (n : Nat) : Ints (w.drewN n) a k xs := h
theorem Ints.ofBox {w : World} {g : Nat} {e : TypeId} {k : IntKind} {xs : List Int} {cur : Array Value} (hb : Box w g e cur) (hc : ∀ (i : Nat) (z : Int), xs[i]? = some z → cur[i]? = some (.int k z)) : Ints w (some ⟨g, 0, none⟩) k xs :=
  .inr ⟨g, 0, rfl, fun i z hz => by rw [Nat.zero_add]; exact hb.cell (hc i z hz)⟩
theorem Ints.ofOwns {w : World} {base : Nat} {e : TypeId} {k : IntKind} {v : Value} {n : Nat} {xs : List Int} (h : w.ownsRow base e 1 v n (xs.map (Value.int k))) : ∃ a c, v = .slice a n c ∧ Ints w a k xs := by
  obtain ⟨_, ⟨rfl, rfl, h0⟩ | ⟨g, cap, cur, rfl, -, hb, -, -, -, -, hc⟩⟩ := owns_split h
  · exact ⟨none, 0, rfl, .inl (by simpa using h0)⟩
  · exact ⟨_, cap, rfl, Ints.ofBox hb (fun i z hz => hc i _ (by simp [hz]))⟩

theorem copy_all {P : Program} {w : World} {dT sT e : TypeId} {g n cap : Nat} {x : Addr} {cur : Array Value} {cs : List Value} (hu : P.underlying dT = some (.slice e)) (hs : (P.info? e).map (·.size) = some 1)
    (hb : Box w g e cur) (hc : cur.size = n) (hl : cs.length = n) (hsrc : ∀ j v, cs[j]? = some v → w.cell? (x.add j) = some v) (h1 : ∀ v ∈ cs, v.oneCell' = true) :
    ∃ w', (∀ ty, (Builtin.copy_ #[dT, sT] ty #[.slice (some ⟨g, 0, none⟩) n n, .slice (some x) n cap]).run P w = .ok (goInt n) w') ∧ Box w' g e cs.toArray ∧ (∀ B w0, Below B w0 w → B ≤ g → Below B w0 w') := by
  refine ⟨w.setRow g cs.toArray, fun ty => ?_, setRow_heap w g cur _ e _ hb, fun B w0 hB hg => hB.trans ⟨rfl, rfl, rfl, by simp [World.setRow], fun k hk => setRow_other w g k _ (by omega)⟩⟩
  have := run_copy_row (P := P) w dT sT ty e g 0 n n x n cap cur e cs hu hs hb (by simp [hl]) hsrc (by omega) h1
  rw [this]
  have e1 : cur.toList.drop n = [] := by simp [hc]
  simp [hl, e1]

/-- a copy of the integers ls, made by the call -/
def Copied (w : World) (k : IntKind) (n : Nat) (ls : List Int) (v : Value) (wc : World) : Prop :=
  ∃ a, v = .slice a n n ∧ ls.length = n ∧ (∀ z ∈ ls, (Lit.int k z).wf = true) ∧ Ints wc a k ls ∧ (ls = [] ∨ ∃ g, a = some ⟨g, 0, none⟩ ∧ w.heap.size ≤ g) ∧ Below w.heap.size w wc

/-- the source's cells, in a world above -/
theorem src_cells {k : IntKind} {w w1 : World} {x : Addr} {n : Nat} {zs : List Int} (hn : n ≤ zs.length) (hcell : ∀ i, i < zs.length → w.cell? (x.add i) = some (.int k (zs.getD i 0))) (hb1 : Below w.heap.size w w1) :
    ∀ j v, ((zs.take n).map (Value.int k))[j]? = some v → w1.cell? (x.add j) = some v := by
  intro j v hv
  have hj : j < n := by
    have := (List.getElem?_eq_some_iff.1 hv).1
    simp at this; omega
  have hjc := hcell j (by omega)
  rw [hb1.cell (cell_lt hjc), hjc]
  simp [hj, show j < zs.length by omega] at hv
  simp [← hv, List.getD, show j < zs.length by omega]

end Go.Proofs.Qxb6612399a
