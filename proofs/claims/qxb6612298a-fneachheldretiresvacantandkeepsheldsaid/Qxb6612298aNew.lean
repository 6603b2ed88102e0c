import Derived.Test.Qxb6612298aEach8
import Derived.Deep.RegionWith
namespace Go.Proofs.Qxb6612298a
open Go.RowKit

def hzC : Array Value := #[.pointer none, .pointer none, .int .u64 0, .pointer none, .int .u64 0, .nilFunc, .int .i32 0, .int .u32 0] ++ Array.replicate 64 (.int .u8 0) ++ #[.int .u64 0, .pointer none] ++ Array.replicate 64 (.int .u8 0) ++ #[.int .i32 0, .int .u32 0, .slice none 0 0]
def slC : Array Value := #[.int .u64 0, .int .u64 0] ++ Array.replicate 64 (.int .u8 0)
theorem zero58 (w : World) : (zeroValue 58).run Try.prog w = .ok (.agg hzC) w := by kernel_rfl
theorem zero60 (w : World) : (zeroValue 60).run Try.prog w = .ok (.agg slC) w := by kernel_rfl
theorem box58 (w : World) : (Instr.box 58 (.agg hzC)).run Try.prog w = .ok (.pointer (some ⟨w.heap.size, 0, none⟩)) (w.alloc (.cells hzC 58)) := by kernel_rfl
theorem box60 (w : World) : (Instr.box 60 (.agg slC)).run Try.prog w = .ok (.pointer (some ⟨w.heap.size, 0, none⟩)) (w.alloc (.cells slC 60)) := by kernel_rfl
theorem hz0 : hzC[0]? = some (.pointer none) := by kernel_rfl
theorem hz6 : hzC[6]? = some (.int .i32 0) := by kernel_rfl
theorem sl0 : slC[0]? = some (.int .u64 0) := by kernel_rfl
theorem hzs : hzC.size = 141 := by kernel_rfl
theorem sls : slC.size = 66 := by kernel_rfl

/-- ZZnewHorizon, k slots made -/
def Nh (w : World) (n : Nat) (zs : List Int) (sb : Nat) (k : Nat) (wr : World) : Prop :=
  Below w.heap.size w wr ∧ Box wr w.heap.size 58 hzC ∧ Box wr sb 27 #[.slice (some ⟨w.heap.size + 1, 0, none⟩) n n] ∧
    ∃ ps cur, Box wr (w.heap.size + 1) 31 cur ∧ cur.size = n ∧ cur.toList.take k = ptrs ps ∧ ps.length = k ∧ Slots wr ps ∧ (ps.map (·.1)).Nodup ∧ (∀ p ∈ ps, w.heap.size ≤ p.1) ∧ ps.map (·.2) = zs.take k

set_option maxHeartbeats 1000000 in
theorem new6 (a : Option Addr) (n cap : Nat) (zs : List Int) (w : World) (hn : n ≤ 65536) (hz : n ≤ zs.length) 
    (fb : Nat) (hfb : n = 0 ∨ fb < w.heap.size) (ha : n = 0 ∨ a = some ⟨fb, 0, none⟩) (hc : ∀ i, i < n → w.cell? ⟨fb, i, none⟩ = some (.int .u64 (zs.getD i 0))) :
    Calls Try.prog 6 #[.slice a n cap] w fun e w' => ∃ hb sb rb ps, e = .returned (.pointer (some ⟨hb, 0, none⟩)) ∧ St w' hb sb (.slice (some ⟨rb, 0, none⟩) n n) ps ∧ ps.length = n ∧ ps.map (·.2) = zs.take n ∧ w.heap.size ≤ hb ∧ w.heap.size ≤ rb ∧ (∀ p ∈ ps, w.heap.size ≤ p.1) ∧ Below w.heap.size w w' := by
  have b1 := zero58
  have b2 := box58
  have b3 := zero60
  have b4 := box60
  obtain ⟨i31, hi, hz0, hz1, hz2⟩ := info_parts info31
  go_enter Try.func6, Try.ntmps6
  go_wp2_with (at_make; refine wpList_make_full _ rfl _ _ 27 rfl w.heap.size 31 i31 (.pointer none) 1 Try.underlying27 hi hz0 hz1 _ _ _ _ n rfl rfl rfl rfl (by rw [hz2]; omega) (by unfold maxLen; omega) (by simp) ?_)
  intro w1 o1 g1
  have hb1 := ((Below.refl w.heap.size w).alloc (Nat.le_refl _) (.cells hzC 58)).grown g1 (by simp) (by simp)
  have hh1 := (Box.new w hzC 58).grown g1 (by simp)
  obtain ⟨-, ⟨h0, -⟩ | ⟨g', cap', cur, hv, -, hbx, -, -, hcs, -, -⟩⟩ := owns_split o1
  · simp at h0
  simp only [Value.slice.injEq, Option.some.injEq, Addr.mk.injEq, and_true, true_and] at hv
  obtain ⟨rfl, rfl⟩ := hv
  have hb2 := hb1.alloc hb1.size (.cells #[.slice (some ⟨w.heap.size + 1, 0, none⟩) n n] 27)
  have hh2 := hh1.alloc (.cells #[.slice (some ⟨w.heap.size + 1, 0, none⟩) n n] 27)
  have hr2 := hbx.alloc (.cells #[.slice (some ⟨w.heap.size + 1, 0, none⟩) n n] 27)
  have hs2 := Box.new w1 #[.slice (some ⟨w.heap.size + 1, 0, none⟩) n n] 27
  generalize hw2 : w1.alloc (.cells #[.slice (some ⟨w.heap.size + 1, 0, none⟩) n n] 27) = w2 at hb2 hh2 hr2 hs2
  have hk0 : Nh w n zs w1.heap.size 0 w2 := ⟨hb2, hh2, hs2, [], cur, hr2, hcs, by simp [ptrs], rfl, by intro p hp; simp at hp, by simp, by simp, by simp⟩
  clear hbx hb1 hh1 hb2 hh2 hr2 hs2 o1 g1 hcs
  go_wp2
  generalize w1.heap.size = sb at *
  clear hw2 w1
  go_loopw [14] (fun i wr => ∃ k : Nat, k ≤ n ∧ i = .int .i64 k ∧ Nh w n zs sb k wr) (fun i _ => n - (intOf i).toNat)
  case atStart => exact ⟨0, Nat.zero_le _, rfl, hk0⟩
  case round =>
    obtain ⟨k, hk, rfl, hS⟩ := hrel
    clear hk0
    obtain ⟨s1, s2, s3, ps, cur, s4, s5, s6, s7, s8, s9, s10, s11⟩ := hS
    by_cases hlt : k < n
    · obtain rfl := ha.resolve_left (by omega)
      have cF := hc k hlt
      have fF : zs.getD k 0 = zs[k] := by simp [List.getD, show k < zs.length by omega]
      rw [fF] at cF
      generalize hf : zs[k] = f at *
      have HF : Hid (zs[k] = f) := hf
      clear hc fF hf
      have n1 := s1.alloc s1.size (.cells slC 60)
      have n2 := s2.alloc (.cells slC 60)
      have n3 := s3.alloc (.cells slC 60)
      have n4 := s4.alloc (.cells slC 60)
      have n8 := s8.alloc (.cells slC 60)
      have n0 := Box.new wr slC 60
      have cF' := (n1.cell (p := ⟨fb, k, none⟩) (hfb.resolve_left (by omega))).trans cF
      have c0 := n0.cell sl0
      have f0 := n0.frozen 0
      generalize hw3 : wr.alloc (.cells slC 60) = w3 at n1 n2 n3 n4 n8 n0 cF' c0 f0
      go_wp2
      go_region_with (go_at_call 11; refine (store11 _ f _ w3.drew c0 f0).mono ?_; rintro e w' ⟨rfl, hw'⟩; rw [hw']; clear hw' w')
      have m1 : Below w.heap.size w (w3.setCell ⟨wr.heap.size, 0, none⟩ (.int .u64 f)).drew := (n1.setCell s1.size _).drew
      have m2 := (n2.setOther (n2.ne n0 (by decide)) 0 (.int .u64 f)).drew
      have m3 := (n3.setOther (n3.ne n0 (by decide)) 0 (.int .u64 f)).drew
      have m4 := (n4.setOther (n4.ne n0 (by decide)) 0 (.int .u64 f)).drew
      have m0 := (n0.set 0 (.int .u64 f)).drew
      have m8 : Slots (w3.setCell ⟨wr.heap.size, 0, none⟩ (.int .u64 f)).drew ps := by
        intro p hp
        obtain ⟨cs, h1, h2⟩ := n8 p hp
        obtain ⟨cs', h1', -⟩ := s8 p hp
        exact ⟨cs, (h1.setOther (by have := h1'.lt; omega) _ _).drew, h2⟩
      have hpl : ∀ p ∈ ps, p.1 < wr.heap.size := fun p hp => by
        obtain ⟨cs', h1', -⟩ := s8 p hp
        exact h1'.lt
      generalize hw4 : (w3.setCell ⟨wr.heap.size, 0, none⟩ (.int .u64 f)).drew = w4 at m1 m2 m3 m4 m0 m8
      clear n1 n2 n3 n4 n0 n8 c0 f0 cF cF' hw3
      have cV := m3.cell (i := 0) (v := .slice (some ⟨w.heap.size + 1, 0, none⟩) n n) rfl
      have hkc : k < cur.size := by omega
      have cR := m4.cell (i := k) (v := cur[k]) (by simp [hkc])
      have fR := m4.frozen k
      go_wp2
      have hpn : ps.length = k := s7
      refine ⟨⟨k + 1, by omega, by go_num, m1.setCell (by simp) _, m2.setOther (m2.ne m4 (by decide)) _ _, m3.setOther (m3.ne m4 (by decide)) _ _, ps ++ [(wr.heap.size, f)], _, m4.set _ _, by simpa using s5, ?_, by simp [s7], ?_, ?_, ?_, ?_⟩, ?_⟩
      · rw [ptrs_snoc, ← s6]
        have hk2 : k < (cur.setIfInBounds k (.pointer (some ⟨wr.heap.size, 0, none⟩))).toList.length := by simpa using hkc
        rw [List.take_succ_eq_append_getElem hk2]
        simp [List.take_set_of_le]
      · intro p hp
        rcases List.mem_append.1 hp with hp | hp
        · obtain ⟨cs, h1, h2⟩ := m8 p hp
          exact ⟨cs, h1.setOther (h1.ne m4 (by decide)) _ _, h2⟩
        · simp at hp
          subst hp
          exact ⟨_, m0.setOther (m0.ne m4 (by decide)) _ _, by simp [sls]⟩
      · simp only [List.map_append, List.map_cons, List.map_nil]
        refine List.nodup_append.2 ⟨s9, by simp, ?_⟩
        intro x hx y hy
        simp at hy
        subst hy
        obtain ⟨p, hp, rfl⟩ := List.mem_map.1 hx
        exact Nat.ne_of_lt (hpl p hp)
      · intro p hp
        rcases List.mem_append.1 hp with hp | hp
        · exact s10 p hp
        · simp at hp
          subst hp
          exact s1.size
      · rw [List.map_append, s11, take_snoc zs k (by omega), HF.out]; rfl
      · simp [intOf]; omega
    · obtain rfl : k = n := by omega
      have f0 := s2.frozen 0
      have hnn : ps.length = k := s7
      have c0 := s2.cell Qxb6612298a.hz0
      go_wp2_with (go_at_call 12; refine (store12 _ _ _ _ _ c0 f0 s3).mono ?_; rintro e w' ⟨rfl, hw'⟩; rw [hw']; clear hw' w')
      go_ret
      refine ⟨w.heap.size, sb, w.heap.size + 1, ps, rfl, ⟨⟨_, s2.set _ _, by simp [hzs], ?_⟩, s3.setOther (s3.ne s2 (by decide)) _ _, ?_, s8.setOther (fun b' cs' hx => hx.ne s2 (by decide)) _ _, s9⟩, s7, s11, Nat.le_refl _, by omega, s10, s1.setCell (Nat.le_refl _) _⟩
      · rw [Array.getElem?_setIfInBounds_ne (by decide)]; exact hz6
      · rw [s7]
        exact owns_mk (Nat.zero_le _) (s4.setOther (s4.ne s2 (by decide)) _ _) (Nat.le_refl _) (by unfold maxLen; omega) s5 s6
end Go.Proofs.Qxb6612298a
