import Derived.Test.Qxb6612298aShr0
namespace Go.Proofs.Qxb6612298a
open Go.RowKit

/-- what shrink's loop keeps, k slots gone through -/
def Sh (w : World) (hb sb : Nat) (ps : List (Nat × Int)) (k : Nat) (wr : World) : Prop :=
  Kept (Touched hb ps) w wr ∧ Held1 wr hb sb ∧ Slots wr (retire (ps.take k) ++ ps.drop k) ∧
    ∃ kv, Box wr w.heap.size 27 #[kv] ∧ wr.ownsRow w.heap.size 31 1 kv (held (ps.take k)).length (ptrs (held (ps.take k)))

set_option maxHeartbeats 2000000 in
theorem shrink20 (hb sb rb cap : Nat) (ps : List (Nat × Int)) (w : World)
    (hs : St w hb sb (.slice (some ⟨rb, 0, none⟩) ps.length cap) ps) (hn : ps.length ≤ 65536) :
    Calls Try.prog 20 #[.pointer (some ⟨hb, 0, none⟩)] w fun e w' => e = .returned (.tuple #[]) ∧
      Kept (Touched hb ps) w w' ∧ Slots w' (retire ps) ∧ ∃ sb' sv', St w' hb sb' sv' (held ps) := by
  obtain ⟨hc, q1, q2, q3⟩ := hs.hor
  have c6 := q1.cell q3
  have f6 := q1.frozen 6
  have hnot : ∀ (x : Bool) (w : World), (Op.unary .not (.bool x)).run Try.prog w = .ok (.bool (!x)) w := fun _ _ => rfl
  have l6 : 6 < hc.size := (Array.getElem?_eq_some_iff.1 q3).1
  have e1 : Held1 (w.setCell ⟨hb, 6, none⟩ (.int .i32 1)) hb sb := by
    refine ⟨_, q1.set 6 (.int .i32 1), ?_, ?_⟩
    · rw [Array.getElem?_setIfInBounds_ne (by decide)]; exact q2
    · simp [l6]
  have e2 : Box (w.setCell ⟨hb, 6, none⟩ (.int .i32 1)) sb 27 #[.slice (some ⟨rb, 0, none⟩) ps.length cap] := hs.box.setOther (hs.box.ne q1 (by decide)) _ _
  have e3 : Slots (w.setCell ⟨hb, 6, none⟩ (.int .i32 1)) ps := hs.slots.setOther (fun b' cs hx => hx.ne q1 (by decide)) _ _
  have e4 : Kept (Touched hb ps) w (w.setCell ⟨hb, 6, none⟩ (.int .i32 1)) := (Kept.refl _ w).setCell (.inl (.inl rfl)) _
  have e5 : (w.setCell ⟨hb, 6, none⟩ (.int .i32 1)).heap.size = w.heap.size := by simp [World.setCell]
  go_enter_defers Try.func20, Try.ntmps20
  generalize hw1 : w.setCell ⟨hb, 6, none⟩ (.int .i32 1) = w1 at *
  obtain ⟨hc1, e11, e12, e13⟩ := e1
  have a1 := e11.alloc (.cells #[.slice none 0 0] 27)
  have a2 := e2.alloc (.cells #[.slice none 0 0] 27)
  have a3 := e3.alloc (.cells #[.slice none 0 0] 27)
  have a4 := e4.alloc (.cells #[.slice none 0 0] 27)
  have a5 := Box.new w1 #[.slice none 0 0] 27
  have a6 := World.ownsRow_nil (w1.alloc (.cells #[.slice none 0 0] 27)) w.heap.size 31 1
  generalize hw2 : w1.alloc (.cells #[.slice none 0 0] 27) = w2 at a1 a2 a3 a4 a5 a6
  have c0 := a1.cell e12
  go_wp2_with (first | (go_at_call 23; refine (trylock23 _ _ _ c6 f6).mono ?_; rintro e w' ⟨rfl, hw'⟩; rw [hw'] ; clear hw' w'; try rw [hw1]) | (go_at_call 13; refine (all13 _ sb _ _ c0 a2).mono ?_; rintro e w' ⟨rfl, hw'⟩; rw [hw']; clear hw' w'))
  have hz : w2.heap.size = w.heap.size + 1 := by rw [← hw2]; simp; omega
  rw [e5] at a5
  have hk0 : Sh w hb sb ps 0 w2 := ⟨a4, ⟨hc1, a1, e12, e13⟩, by simpa [retire] using a3, _, a5, a6⟩
  obtain ⟨-, h0 | ⟨g', cap', cur, hv, -, hbx, -, -, -, -, hcur⟩⟩ := owns_split hs.row
  · simp at h0
  simp only [Value.slice.injEq, Option.some.injEq, Addr.mk.injEq, and_true, true_and] at hv
  obtain ⟨rfl, rfl⟩ := hv
  have hnd := hs.nodup
  have hrbS : ¬ Touched hb ps rb := by
    rintro (h | h)
    · exact hbx.ne q1 (by decide) h
    · obtain ⟨p, hp, hpe⟩ := List.mem_map.1 h
      obtain ⟨cs, y1, y2⟩ := hs.slots p hp
      exact hbx.ne y1 (by decide) hpe.symm
  have hlb : hb < w.heap.size := q1.lt
  have hsl : ∀ p ∈ ps, p.1 < w.heap.size := fun p hp => by obtain ⟨cs, y1, y2⟩ := hs.slots p hp; exact y1.lt
  clear a1 a2 a3 a4 a5 a6 c0 e2 e3 e4 e11 e12 e13 hw1 hw2 e5 hs q1 q2 q3 c6 f6 l6 hz
  go_loopw [16] (fun i wr => ∃ k : Nat, k ≤ ps.length ∧ i = .int .i64 k ∧ Sh w hb sb ps k wr) (fun i _ => ps.length - (intOf i).toNat)
  case atStart => exact ⟨0, Nat.zero_le _, rfl, hk0⟩
  case round =>
    obtain ⟨k, hk, rfl, hS⟩ := hrel
    clear hk0
    have hle := held_le (ps.take k)
    have htl : (ps.take k).length = k := by simp; omega
    by_cases hlt : k < ps.length
    · have hsn := take_snoc ps k hlt
      have hdr := split_at ps k hlt
      have hpt : (ptrs ps)[k]? = some (.pointer (some ⟨(ps[k]).1, 0, none⟩)) := by simp [ptrs, hlt]
      have cR := (hS.1.box hbx hrbS).cell (hcur k _ hpt)
      obtain ⟨s1, s2, s3, kv, s4, s5⟩ := hS
      have hmem : ps[k] ∈ ps := List.getElem_mem hlt
      clear hpt hbx hcur
      generalize hp : ps[k] = p at *
      obtain ⟨b, f⟩ := p
      simp only at *
      rw [hdr] at s3
      obtain ⟨cs, y1, y2⟩ := s3 (b, f) (by simp)
      have cS := y1.cell y2
      have fS := y1.frozen 0
      have HS : Hid (List.take (k + 1) ps = List.take k ps ++ [(b, f)]) := hsn
      have hnd' : ((retire (ps.take k) ++ (b, f) :: ps.drop (k + 1)).map (·.1)).Nodup := by
        have e : ps = ps.take k ++ (b, f) :: ps.drop (k + 1) := by rw [← hdr]; simp
        rw [e] at hnd
        simpa [retire_fst] using hnd
      clear hsn hp hdr
      by_cases hf : f = 0
      · subst hf
        have n1 := s3.set (f' := 18446744073709551615) hnd'
        have n2 := s1.setCell (p := ⟨b, 0, none⟩) (.inl (.inr (List.mem_map.2 ⟨_, hmem, rfl⟩))) (.int .u64 18446744073709551615)
        have n4 := s4.setOther (s4.ne y1 (by decide)) 0 (.int .u64 18446744073709551615)
        have n5 := owns_set s5 (owns_ne s5 y1 (by decide)) 0 (.int .u64 18446744073709551615)
        obtain ⟨hc2, t1, t2, t3⟩ := s2
        have n3 : Held1 (wr.setCell ⟨b, 0, none⟩ (.int .u64 18446744073709551615)) hb sb := ⟨hc2, t1.setOther (t1.ne y1 (by decide)) _ _, t2, t3⟩
        generalize hw3 : wr.setCell ⟨b, 0, none⟩ (.int .u64 18446744073709551615) = w3 at n1 n2 n3 n4 n5
        clear s1 s3 s4 s5 t1 y1
        go_wp2_with (go_at_call 25; refine (cas25H _ _ _ cS fS).mono ?_; rintro e w' ⟨rfl, hw'⟩; rw [hw', hw3]; clear hw' w')
        have eh : held (ps.take (k + 1)) = held (ps.take k) := by rw [HS.out, held_snoc]; simp
        have er : retire (ps.take (k + 1)) = retire (ps.take k) ++ [(b, 18446744073709551615)] := by rw [HS.out, retire_snoc]; simp [MaxU]
        refine ⟨⟨k + 1, by omega, by go_num, n2, n3, by rw [er]; exact n1, kv, n4, by rw [eh]; exact n5⟩, ?_⟩
        simp [intOf]; omega
      · have HF : Hid (¬ f = 0) := hf
        have ck := s4.cell (i := 0) (v := kv) rfl
        have lk := s4.lt
        have eh : held (ps.take (k + 1)) = held (ps.take k) ++ [(b, f)] := by rw [HS.out, held_snoc]; simp [hf]
        have el : (held (ps.take (k + 1))).length = (held (ps.take k)).length + 1 := by rw [eh]; simp
        have er : retire (ps.take (k + 1)) = retire (ps.take k) ++ [(b, f)] := by rw [HS.out, retire_snoc]; simp [hf]
        have HE : Hid _ := And.intro eh (And.intro el er)
        clear eh el er
        obtain ⟨i31, hi, hz0, hz1, hz2⟩ := info_parts info31
        go_wp2_with (first | (go_at_call 25; refine (cas25M _ _ _ _ cS fS hf).mono ?_; rintro e w' ⟨rfl, hw'⟩; rw [hw']; clear hw' w' hf) | (at_builtin; refine wpList_app1 _ rfl _ _ 27 rfl w.heap.size 31 i31 (.pointer none) 8 Try.underlying27 hi hz0 hz1 hz2 rfl kv _ _ rfl (s5.alloc _) ⟨wr.heap.size, 0, none⟩ (.pointer (some ⟨b, 0, none⟩)) rfl (cell_one_new _ _ _) rfl (by unfold maxLen; omega) (by omega) (by simp; omega) ?_))
        intro g cp w3 q3 g3
        have x4 := (s4.alloc (.cells #[.pointer (some ⟨b, 0, none⟩)] 31)).grown g3 (owns_ne s5 s4 (by decide))
        obtain ⟨hc2, t1, t2, t3⟩ := s2
        have x2 := (t1.alloc (.cells #[.pointer (some ⟨b, 0, none⟩)] 31)).grown g3 (owns_ne s5 t1 (by decide))
        have x3 := (s3.alloc (.cells #[.pointer (some ⟨b, 0, none⟩)] 31)).grown g3 (fun b' cs' hx => owns_ne (s5.alloc _) hx (by decide))
        have x1 := (s1.alloc (.cells #[.pointer (some ⟨b, 0, none⟩)] 31)).grown g3 (owns_ge s5)
        have c4 := x4.cell (i := 0) (v := kv) rfl
        have f4 := x4.frozen 0
        clear g3 s1 s3 s4 s5 t1 y1
        go_wp2
        obtain ⟨eh, el, er⟩ := HE.out
        refine ⟨⟨k + 1, by omega, by go_num, x1.setCell (.inr (Nat.le_refl _)) _, ⟨hc2, x2.setOther (x2.ne x4 (by decide)) _ _, t2, t3⟩, ?_, _, x4.set _ _, ?_⟩, ?_⟩
        · rw [er, List.append_assoc]
          exact x3.setOther (fun b' cs' hx => hx.ne x4 (by decide)) _ _
        · rw [el, eh, ptrs_snoc]
          exact owns_set q3 (owns_ne q3 x4 (by decide)) _ _
        · simp [intOf]; omega
    · obtain rfl : k = ps.length := by omega
      clear hbx hcur hrbS
      simp only [List.take_length, List.drop_length, List.append_nil, Sh] at hS
      obtain ⟨s1, ⟨hc2, t1, t2, t3⟩, s3, kv, s4, s5⟩ := hS
      have l0 : 0 < hc2.size := (Array.getElem?_eq_some_iff.1 t2).1
      have l6 : 6 < hc2.size := (Array.getElem?_eq_some_iff.1 t3).1
      have c0 := t1.cell t2
      have f0 := t1.frozen 0
      have v1 := s1.setCell (p := ⟨hb, 0, none⟩) (.inl (.inl rfl)) (.pointer (some ⟨w.heap.size, 0, none⟩))
      have v2 := t1.set 0 (.pointer (some ⟨w.heap.size, 0, none⟩))
      have v3 := s3.setOther (fun b' cs' hx => hx.ne t1 (by decide)) 0 (.pointer (some ⟨w.heap.size, 0, none⟩))
      have v4 := s4.setOther (s4.ne t1 (by decide)) 0 (.pointer (some ⟨w.heap.size, 0, none⟩))
      have v5 := owns_set s5 (owns_ne s5 t1 (by decide)) 0 (.pointer (some ⟨w.heap.size, 0, none⟩))
      generalize hw5 : wr.setCell ⟨hb, 0, none⟩ (.pointer (some ⟨w.heap.size, 0, none⟩)) = w5 at *
      have y0 : (hc2.setIfInBounds 0 (.pointer (some ⟨w.heap.size, 0, none⟩)))[0]? = some (.pointer (some ⟨w.heap.size, 0, none⟩)) := by simp [l0]
      have y6 : (hc2.setIfInBounds 0 (.pointer (some ⟨w.heap.size, 0, none⟩)))[6]? = some (.int .i32 1) := by rw [Array.getElem?_setIfInBounds_ne (by decide)]; exact t3
      have y7 : 6 < (hc2.setIfInBounds 0 (.pointer (some ⟨w.heap.size, 0, none⟩))).size := by simpa using l6
      generalize hc2.setIfInBounds 0 (.pointer (some ⟨w.heap.size, 0, none⟩)) = hc3 at v2 y0 y6 y7
      go_wp2_with (go_at_call 12; refine (store12 _ _ _ _ _ c0 f0 s4).mono ?_; rintro e w' ⟨rfl, hw'⟩; rw [hw', hw5]; clear hw' w')
      refine leaves_cons (f := 24) (args := #[.pointer (some ⟨hb, 6, none⟩)]) (by simp) (by simp [go_sem]) ?_
      refine (unlock24 _ .returning _ (v2.cell y6) (v2.frozen 6)).mono ?_
      rintro e u' w'' ⟨rfl, rfl, rfl⟩
      refine ⟨_, results_none rfl _ _ _, rfl, v1.setCell (.inl (.inl rfl)) _, v3.setOther (fun b' cs' hx => hx.ne v2 (by decide)) _ _, w.heap.size, kv, ?_⟩
      refine ⟨⟨_, v2.set _ _, ?_, ?_⟩, v4.setOther (v4.ne v2 (by decide)) _ _, owns_base (owns_set v5 (owns_ne v5 v2 (by decide)) _ _) (Nat.zero_le _), ?_, ?_⟩
      · rw [Array.getElem?_setIfInBounds_ne (by decide)]; exact y0
      · simp [y7]
      · intro p hp
        have hpm := List.mem_filter.1 hp
        have hp2 : p ∈ retire ps := by
          refine List.mem_map.2 ⟨p, hpm.1, ?_⟩
          have := hpm.2
          simp at this
          simp [this]
        obtain ⟨cs, z1, z2⟩ := v3 p hp2
        exact ⟨cs, z1.setOther (z1.ne v2 (by decide)) _ _, z2⟩
      · exact hnd.sublist ((List.filter_sublist).map _)
end Go.Proofs.Qxb6612298a
