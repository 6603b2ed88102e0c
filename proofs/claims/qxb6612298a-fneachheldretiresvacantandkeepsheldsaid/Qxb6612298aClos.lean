import Derived.Test.Qxb6612298aLeaf

namespace Go.Proofs.Qxb6612298a
open Go.RowKit

theorem info31 : (Try.prog.info? 31).map (fun i => (i.zero, i.size, i.bytes)) = some (some (.pointer none), 1, 8) := by kernel_rfl
theorem info24 : (Try.prog.info? 24).map (fun i => (i.zero, i.size, i.bytes)) = some (some (.int .u64 0), 1, 8) := by kernel_rfl

set_option maxHeartbeats 800000 in
theorem clos15 (B p1 p2 b : Nat) (f : Int) (v1 v2 : Value) (n : Nat) (xs ys : List Value) (w : World)
    (hB1 : B ≤ p1) (hB2 : B ≤ p2) (hp1 : Box w p1 27 #[v1]) (hp2 : Box w p2 22 #[v2])
    (o1 : w.ownsRow B 31 1 v1 n xs) (o2 : w.ownsRow B 24 1 v2 n ys) (hn : n ≤ 1048576) :
    Calls Try.prog 15 #[.pointer (some ⟨b, 0, none⟩), .int .u64 f, .pointer (some ⟨p1, 0, none⟩), .pointer (some ⟨p2, 0, none⟩)] w fun e w' =>
      e = .returned (.tuple #[]) ∧ ∃ v1' v2', Box w' p1 27 #[v1'] ∧ Box w' p2 22 #[v2'] ∧ w'.ownsRow B 31 1 v1' (n + 1) (xs ++ [.pointer (some ⟨b, 0, none⟩)]) ∧
        w'.ownsRow B 24 1 v2' (n + 1) (ys ++ [.int .u64 f]) ∧ Below B w w' := by
  obtain ⟨i31, hi, hz0, hz1, hz2⟩ := info_parts info31
  obtain ⟨i24, ki, kz0, kz1, kz2⟩ := info_parts info24
  have c1 := hp1.cell (i := 0) (v := v1) rfl
  have c2 := hp2.cell (i := 0) (v := v2) rfl
  have l1 := hp1.lt
  have l2 := hp2.lt
  have Hn : Hid (n ≤ 1048576) := hn
  go_enter Try.func15, Try.ntmps15
  go_wp2_with (at_builtin; refine wpList_app1 _ rfl _ _ 27 rfl B 31 i31 (.pointer none) 8 Try.underlying27 hi hz0 hz1 hz2 rfl v1 n xs rfl (o1.alloc _) ⟨w.heap.size, 0, none⟩ (.pointer (some ⟨b, 0, none⟩)) rfl (cell_one_new _ _ _) rfl (by unfold maxLen; omega) (by omega) (by simp; omega) ?_)
  intro g cap w1 q1 g1
  have d1 := (hp1.alloc (.cells #[.pointer (some ⟨b, 0, none⟩)] 31)).grown g1 (owns_ne o1 hp1 (by decide))
  have d2 := (hp2.alloc (.cells #[.pointer (some ⟨b, 0, none⟩)] 31)).grown g1 (owns_ne o1 hp2 (by decide))
  have r2 := (o2.alloc (.cells #[.pointer (some ⟨b, 0, none⟩)] 31)).kept g1 (owns_ne2 o2 o1 (by decide))
  have b1 : Below B w w1 := ((Below.refl B w).alloc (by omega) _).grown g1 (by simp; omega) (owns_ge o1)
  have z1 := g1.size
  clear g1 o1 o2 hp1 hp2 c1 c2
  have c1 := d1.cell (i := 0) (v := v1) rfl
  have f1 := d1.frozen 0
  have e1 := d1.set 0 (.slice (some ⟨g, 0, none⟩) (n + 1) cap)
  have e2 := d2.setOther (d2.ne d1 (by decide)) 0 (.slice (some ⟨g, 0, none⟩) (n + 1) cap)
  have s1 := owns_set q1 (owns_ne q1 d1 (by decide)) 0 (.slice (some ⟨g, 0, none⟩) (n + 1) cap)
  have s2 := owns_set r2 (owns_ne r2 d1 (by decide)) 0 (.slice (some ⟨g, 0, none⟩) (n + 1) cap)
  have b2 := b1.setCell (p := ⟨p1, 0, none⟩) hB1 (.slice (some ⟨g, 0, none⟩) (n + 1) cap)
  have lz : p1 < w1.heap.size := d1.lt
  generalize hw2 : w1.setCell ⟨p1, 0, none⟩ (.slice (some ⟨g, 0, none⟩) (n + 1) cap) = w2 at e1 e2 s1 s2 b2
  have hz2 : w2.heap.size = w1.heap.size := by rw [← hw2]; simp [World.setCell]
  have k2 := e2.cell (i := 0) (v := v2) rfl
  clear q1 d1 d2 r2 b1 z1
  go_wp2_with (at_builtin; refine wpList_app1 _ rfl _ _ 22 rfl B 24 i24 (.int .u64 0) 8 Try.underlying22 ki kz0 kz1 kz2 rfl v2 n ys rfl (s2.alloc _) ⟨w2.heap.size, 0, none⟩ (.int .u64 f) (by rw [hz2]; rfl) (cell_one_new _ _ _) rfl (by unfold maxLen; omega) (by omega) (by simp; omega) ?_)
  intro g' cap' w3 q3 g3
  have x1 := (e1.alloc (.cells #[.int .u64 f] 24)).grown g3 (owns_ne s2 e1 (by decide))
  have x2 := (e2.alloc (.cells #[.int .u64 f] 24)).grown g3 (owns_ne s2 e2 (by decide))
  have t1 := (s1.alloc (.cells #[.int .u64 f] 24)).kept g3 (owns_ne2 s1 s2 (by decide))
  have b3 : Below B w w3 := (b2.alloc (by omega) _).grown g3 (by simp; omega) (owns_ge s2)
  have c3 := x2.cell (i := 0) (v := v2) rfl
  have f3 := x2.frozen 0
  clear hw2 g3
  go_wp2
  go_end0
  exact ⟨rfl, _, _, x1.setOther (x1.ne x2 (by decide)) _ _, x2.set _ _, owns_set t1 (owns_ne t1 x2 (by decide)) _ _, owns_set q3 (owns_ne q3 x2 (by decide)) _ _, b3.setCell hB2 _⟩
end Go.Proofs.Qxb6612298a
