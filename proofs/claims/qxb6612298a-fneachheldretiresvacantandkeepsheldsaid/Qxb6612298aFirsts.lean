import Derived.Test.Qxb6612298aRow
namespace Go.Proofs.Qxb6612298a
open Go.RowKit

/-- ZZslotFirsts, k gone through -/
def Sf (w : World) (ps : List (Nat × Int)) (k : Nat) (wr : World) : Prop :=
  Below w.heap.size w wr ∧ ∃ cur, Box wr w.heap.size 24 cur ∧ cur.size = ps.length ∧ cur.toList.take k = nums (ps.take k)

set_option maxHeartbeats 1000000 in
theorem firsts10 (a : Option Addr) (cap : Nat) (ps : List (Nat × Int)) (w : World) (hr : Row w a 31 (ptrs ps)) (hs : Slots w ps) (hn : ps.length ≤ 65536) :
    Calls Try.prog 10 #[.slice a ps.length cap] w fun e w' => ∃ a', e = .returned (.slice a' ps.length ps.length) ∧ Row w' a' 24 (nums ps) ∧ Below w.heap.size w w' := by
  obtain ⟨i24, hi, hz0, hz1, hz2⟩ := info_parts info24
  go_enter Try.func10, Try.ntmps10
  go_wp2_with (at_make; refine wpList_make_full _ rfl _ _ 22 rfl w.heap.size 24 i24 (.int .u64 0) 1 Try.underlying22 hi hz0 hz1 _ _ _ _ ps.length rfl rfl rfl rfl (by rw [hz2]; omega) (by unfold maxLen; omega) (by simp) ?_)
  intro w1 o1 g1
  have hb1 := (Below.refl w.heap.size w).grown g1 (by simp) (by simp)
  obtain ⟨-, ⟨h0, -⟩ | ⟨g', cap', cur, hv, -, hbx, -, -, hcs, -, -⟩⟩ := owns_split o1
  · simp at h0
  simp only [Value.slice.injEq, Option.some.injEq, Addr.mk.injEq, and_true, true_and] at hv
  obtain ⟨rfl, rfl⟩ := hv
  have hk0 : Sf w ps 0 w1 := ⟨hb1, cur, hbx, hcs, by simp [nums]⟩
  clear hbx hb1 o1 g1 hcs
  go_wp2
  go_loopw [10] (fun i wr => ∃ k : Nat, k ≤ ps.length ∧ i = .int .i64 k ∧ Sf w ps k wr) (fun i _ => ps.length - (intOf i).toNat)
  case atStart => exact ⟨0, Nat.zero_le _, rfl, hk0⟩
  case round =>
    obtain ⟨k, hk, rfl, hS⟩ := hrel
    clear hk0
    obtain ⟨s1, cur, s2, s3, s4⟩ := hS
    by_cases hlt : k < ps.length
    · have hsn := take_snoc ps k hlt
      have hmem : ps[k] ∈ ps := List.getElem_mem hlt
      obtain ⟨cs, y1, y2⟩ := hs _ hmem
      have hpt : (ptrs ps)[k]? = some (.pointer (some ⟨(ps[k]).1, 0, none⟩)) := by simp [ptrs, hlt]
      obtain ⟨g, rfl, cR⟩ := (hr.below s1 (Nat.le_refl _)).at hpt
      have cS := (y1.below s1 y1.lt).cell y2
      clear hpt hmem y1 y2 hs hr
      generalize hp : ps[k] = p at *
      obtain ⟨b, f⟩ := p
      simp only at *
      have HS : Hid (List.take (k + 1) ps = List.take k ps ++ [(b, f)]) := hsn
      clear hp hsn
      have hkc : k < cur.size := by omega
      have cC := s2.cell (i := k) (v := cur[k]) (by simp [hkc])
      have fC := s2.frozen k
      go_wp2_with (go_at_call 16; refine (load16 _ _ _ cS).mono ?_; rintro e w' ⟨rfl, hw'⟩; rw [hw']; clear hw' w')
      refine ⟨⟨k + 1, by omega, by go_num, s1.setCell (Nat.le_refl _) _, _, s2.set _ _, by simpa using s3, ?_⟩, ?_⟩
      · rw [HS.out, nums_snoc, ← s4]
        have hk2 : k < (cur.setIfInBounds k (.int .u64 f)).toList.length := by simpa using hkc
        rw [List.take_succ_eq_append_getElem hk2]
        simp [List.take_set_of_le]
      · simp [intOf]; omega
    · obtain rfl : k = ps.length := by omega
      go_wp2
      go_ret
      refine ⟨_, rfl, .inr ⟨_, cur, rfl, s2, ?_⟩, s1⟩
      intro i u hu
      simp only [List.take_length] at s4
      rw [← s4, List.getElem?_take] at hu
      split at hu
      · simpa using hu
      · cases hu
end Go.Proofs.Qxb6612298a
