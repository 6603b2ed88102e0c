/- Slices as the law reads them: 'Row w a e xs': the slice at a bears the elements xs. -/
import Derived.Test.Qxb6612298aNew
import Derived.Laws.CopyRow
namespace Go.Proofs.Qxb6612298a
open Go.RowKit

def Row (w : World) (a : Option Addr) (e : TypeId) (xs : List Value) : Prop :=
  xs = [] ∨ ∃ g cur, a = some ⟨g, 0, none⟩ ∧ Box w g e cur ∧ ∀ (i : Nat) (u : Value), xs[i]? = some u → cur[i]? = some u

theorem Row.at {w : World} {a : Option Addr} {e : TypeId} {xs : List Value} (h : Row w a e xs) {i : Nat} {u : Value} (hu : xs[i]? = some u) :
    ∃ g, a = some ⟨g, 0, none⟩ ∧ w.cell? ⟨g, i, none⟩ = some u := by
  rcases h with rfl | ⟨g, cur, rfl, hb, hc⟩
  · simp at hu
  · exact ⟨g, rfl, hb.cell (hc i u hu)⟩
theorem Row.below {B : Nat} {w w' : World} {a : Option Addr} {e : TypeId} {xs : List Value} (h : Row w a e xs) (hb : Below B w w') (hB : w.heap.size ≤ B) : Row w' a e xs := by
  rcases h with rfl | ⟨g, cur, rfl, hg, hc⟩
  · exact .inl rfl
  · exact .inr ⟨g, cur, rfl, hg.below hb (Nat.lt_of_lt_of_le hg.lt hB), hc⟩
theorem Row.kept {S : Nat → Prop} {w w' : World} {a : Option Addr} {e : TypeId} {xs : List Value} (h : Row w a e xs) (hk : Kept S w w') (hn : ∀ g cs, Box w g e cs → ¬ S g) : Row w' a e xs := by
  rcases h with rfl | ⟨g, cur, rfl, hg, hc⟩
  · exact .inl rfl
  · exact .inr ⟨g, cur, rfl, hk.box hg (hn _ _ hg), hc⟩
theorem Row.ofOwns {w : World} {base : Nat} {e : TypeId} {v : Value} {n : Nat} {xs : List Value} (h : w.ownsRow base e 1 v n xs) : ∃ a c, v = .slice a n c ∧ Row w a e xs := by
  obtain ⟨_, ⟨rfl, rfl, rfl⟩ | ⟨g, cap, cur, rfl, -, hb, -, -, -, -, hc⟩⟩ := owns_split h
  · exact ⟨none, 0, rfl, .inl rfl⟩
  · exact ⟨_, cap, rfl, .inr ⟨g, cur, rfl, hb, hc⟩⟩

theorem copy_all {P : Program} {w : World} {dT sT e : TypeId} {g n cap : Nat} {x : Addr} {cur : Array Value} {cs : List Value} (hu : P.underlying dT = some (.slice e)) (hs : (P.info? e).map (·.size) = some 1)
    (hb : Box w g e cur) (hc : cur.size = n) (hl : cs.length = n) (hsrc : ∀ j v, cs[j]? = some v → w.cell? (x.add j) = some v) (h1 : ∀ v ∈ cs, v.oneCell' = true) :
    ∃ w', (∀ ty, (Builtin.copy_ #[dT, sT] ty #[.slice (some ⟨g, 0, none⟩) n n, .slice (some x) n cap]).run P w = .ok (goInt n) w') ∧ Box w' g e cs.toArray ∧ (∀ B w0, Below B w0 w → B ≤ g → Below B w0 w') := by
  refine ⟨w.setRow g cs.toArray, fun ty => ?_, setRow_heap w g cur _ e _ hb, fun B w0 hB hg => hB.trans ⟨rfl, rfl, rfl, by simp [World.setRow], fun k hk => setRow_other w g k _ (by omega)⟩⟩
  have := run_copy_row (P := P) w dT sT ty e g 0 n n x n cap cur e cs hu hs hb (by simp [hl]) hsrc (by omega) h1
  rw [this]
  have e1 : cur.toList.drop n = [] := by simp [hc]
  simp [hl, e1]

theorem ints_one (k : IntKind) (zs : List Int) : ∀ u ∈ zs.map (Value.int k), u.oneCell' = true := ints_oneCell k zs

/-- ZZeachHeld, its two slices written out -/
theorem each8' (hb sb : Nat) (sv : Value) (ps : List (Nat × Int)) (w : World) (hs : St w hb sb sv ps)
    (hr : ∀ p ∈ ps, 0 ≤ p.2 ∧ p.2 < MaxU) (hn : ps.length ≤ 65536) :
    Calls Try.prog 8 #[.pointer (some ⟨hb, 0, none⟩)] w fun e w' => ∃ a1 c1 a2 c2, e = .returned (.tuple #[.slice a1 (held ps).length c1, .slice a2 (held ps).length c2]) ∧
      Row w' a1 31 (ptrs (held ps)) ∧ Row w' a2 24 (nums (held ps)) ∧ After w hb ps w' := by
  refine (each8 hb sb sv ps w hs hr hn).mono ?_
  rintro e w' ⟨v1, v2, rfl, ⟨g1, g2⟩, h⟩
  obtain ⟨a1, c1, rfl, r1⟩ := Row.ofOwns g1
  obtain ⟨a2, c2, rfl, r2⟩ := Row.ofOwns g2
  exact ⟨a1, c1, a2, c2, rfl, r1, r2, h⟩

theorem new6' (a : Option Addr) (n : Nat) (ls : List Int) (w : World) (hn : n ≤ 65536) (hl : ls.length = n) (hr : Row w a 24 (ls.map (Value.int .u64))) :
    Calls Try.prog 6 #[.slice a n n] w fun e w' => ∃ hb sb rb ps, e = .returned (.pointer (some ⟨hb, 0, none⟩)) ∧ St w' hb sb (.slice (some ⟨rb, 0, none⟩) n n) ps ∧ ps.length = n ∧ ps.map (·.2) = ls ∧ w.heap.size ≤ hb ∧ w.heap.size ≤ rb ∧ (∀ p ∈ ps, w.heap.size ≤ p.1) ∧ Below w.heap.size w w' := by
  have key : ∃ fb, (n = 0 ∨ fb < w.heap.size) ∧ (n = 0 ∨ a = some ⟨fb, 0, none⟩) ∧ ∀ i, i < n → w.cell? ⟨fb, i, none⟩ = some (.int .u64 (ls.getD i 0)) := by
    rcases hr with h | ⟨g, cur, rfl, hb, hc⟩
    · have h0 : n = 0 := by rw [← hl]; simpa using h
      exact ⟨0, .inl h0, .inl h0, by intro i hi; omega⟩
    · refine ⟨g, .inr hb.lt, .inr rfl, ?_⟩
      intro i hi
      have hil : i < ls.length := by omega
      exact hb.cell (hc i _ (by simp [hil, List.getD]))
  obtain ⟨fb, k1, k2, k3⟩ := key
  refine (new6 a n n ls w hn (by omega) fb k1 k2 k3).mono ?_
  rintro e w' ⟨hb, sb, rb, ps, h⟩
  exact ⟨hb, sb, rb, ps, by rwa [List.take_of_length_le (by omega)] at h⟩

/-- a horizon's slots, as 'all' hands them out -/
theorem St.shape {w : World} {hb sb : Nat} {sv : Value} {ps : List (Nat × Int)} (h : St w hb sb sv ps) : ∃ a c, sv = .slice a ps.length c ∧ Row w a 31 (ptrs ps) := Row.ofOwns h.row

end Go.Proofs.Qxb6612298a
