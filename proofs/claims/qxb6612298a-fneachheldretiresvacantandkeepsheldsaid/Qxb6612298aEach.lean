import Derived.Test.Qxb6612298aSt
namespace Go.Proofs.Qxb6612298a
open Go.RowKit

/-- what the closure has gathered: H's pointers and stamps -/
def EachOut (B p1 p2 : Nat) (H : List (Nat × Int)) (w : World) : Prop :=
  ∃ v1 v2, Box w p1 27 #[v1] ∧ Box w p2 22 #[v2] ∧ w.ownsRow B 31 1 v1 H.length (ptrs H) ∧ w.ownsRow B 24 1 v2 H.length (nums H)

set_option maxHeartbeats 1000000 in
theorem each14 (B p1 p2 hb sb rb cap : Nat) (ps : List (Nat × Int)) (w0 w : World)
    (hs : St w0 hb sb (.slice (some ⟨rb, 0, none⟩) ps.length cap) ps) (hB : B = w0.heap.size) (hbel : Below B w0 w)
    (hr : ∀ p ∈ ps, 0 ≤ p.2 ∧ p.2 < MaxU) (hn : ps.length ≤ 65536)
    (hB1 : B ≤ p1) (hB2 : B ≤ p2) (ho : EachOut B p1 p2 [] w) (R : World → Prop)
    (hno : ¬ (64 < ps.length ∧ 4 * (held ps).length < ps.length) → ∀ wr, Below B w0 wr → EachOut B p1 p2 (held ps) wr → R wr)
    (hyes : (64 < ps.length ∧ 4 * (held ps).length < ps.length) → ∀ wr, Below B w0 wr → EachOut B p1 p2 (held ps) wr → Calls Try.prog 20 #[.pointer (some ⟨hb, 0, none⟩)] wr fun e w' => e = .returned (.tuple #[]) ∧ R w') :
    Calls Try.prog 14 #[.pointer (some ⟨hb, 0, none⟩), .func (.func 15) #[] #[.pointer (some ⟨p1, 0, none⟩), .pointer (some ⟨p2, 0, none⟩)]] w fun e w' => e = .returned (.tuple #[]) ∧ R w' := by
  have HN : Hid _ := hno
  have HY : Hid _ := hyes
  clear hno hyes
  have hs' := hs.below hbel (by omega)
  obtain ⟨hc, q1, q2, q3⟩ := hs'.hor
  have c0 := q1.cell q2
  have sbx := hs'.box
  go_enter Try.func14, Try.ntmps14
  go_wp2_with (go_at_call 13; refine (all13 _ sb _ _ c0 sbx).mono ?_; rintro e w' ⟨rfl, rfl⟩)
  clear c0 sbx q1 q2 q3 hs'
  go_loopw [5, 13] (fun hd i wr => ∃ k : Nat, k ≤ ps.length ∧ i = .int .i64 k ∧ hd = .int .i64 (held (ps.take k)).length ∧ Below B w0 wr ∧ EachOut B p1 p2 (held (ps.take k)) wr) (fun _ i _ => ps.length - (intOf i).toNat)
  case atStart => exact ⟨0, Nat.zero_le _, rfl, rfl, hbel, ho⟩
  case round =>
    obtain ⟨k, hk, rfl, rfl, hbk, hout⟩ := hrel
    clear ho hbel
    have hle := held_le (ps.take k)
    have htl : (ps.take k).length = k := by simp; omega
    by_cases hlt : k < ps.length
    · have hsn := take_snoc ps k hlt
      have hmem : ps[k] ∈ ps := List.getElem_mem hlt
      obtain ⟨cs, y1, y2⟩ := hs.slots _ hmem
      have hrk := hr _ hmem
      have hpt : (ptrs ps)[k]? = some (.pointer (some ⟨(ps[k]).1, 0, none⟩)) := by simp [ptrs, hlt]
      obtain ⟨-, h0 | ⟨g', cap', cur, hv, -, hbx, -, -, -, -, hcur⟩⟩ := owns_split hs.row
      · simp at h0
      simp only [Value.slice.injEq, Option.some.injEq, Addr.mk.injEq, and_true, true_and] at hv
      obtain ⟨rfl, rfl⟩ := hv
      have cR := (hbx.below hbk (by have := hbx.lt; omega)).cell (hcur k _ hpt)
      have cS := (y1.below hbk (by have := y1.lt; omega)).cell y2
      clear hpt hmem y1 y2 hbx hcur hs
      generalize hp : ps[k] = p at *
      obtain ⟨b, f⟩ := p
      simp only at *
      have HP : Hid (ps[k] = (b, f)) := hp
      have HS : Hid (List.take (k + 1) ps = List.take k ps ++ [(b, f)]) := hsn
      clear hp hsn
      have hm : (f != 18446744073709551615) = true := by simp [MaxU] at hrk ⊢; omega
      by_cases hf : f = 0
      · have hf0 : (f != 0) = false := by simp [hf]
        have HF : Hid (f = 0) := hf
        clear hf hm
        go_wp2_with (go_at_call 16; refine (load16 _ _ _ cS).mono ?_; rintro e w' ⟨rfl, rfl⟩)
        have eh : held (ps.take (k + 1)) = held (ps.take k) := by rw [HS.out, held_snoc]; simp [HF.out]
        refine ⟨⟨k + 1, by omega, by go_num, by rw [eh], hbk, by rw [eh]; exact hout⟩, ?_⟩
        simp [intOf]; omega
      · have hf0 : (f != 0) = true := by simp [hf]
        have HF : Hid (¬ f = 0) := hf
        clear hf
        obtain ⟨u1, u2, x1, x2, r1, r2⟩ := hout
        go_wp2_with (first | (go_at_call 16; refine (load16 _ _ _ cS).mono ?_; rintro e w' ⟨rfl, rfl⟩) | (go_at_call 15; refine (clos15 B p1 p2 b f u1 u2 _ _ _ _ hB1 hB2 x1 x2 r1 r2 (by omega)).mono ?_; rintro e w' ⟨rfl, u1', u2', x1', x2', r1', r2', hbk'⟩))
        have eh : held (ps.take (k + 1)) = held (ps.take k) ++ [(b, f)] := by rw [HS.out, held_snoc]; simp [HF.out]
        have el : (held (ps.take (k + 1))).length = (held (ps.take k)).length + 1 := by rw [eh]; simp
        refine ⟨⟨k + 1, by omega, by go_num, by rw [el]; go_num, hbk.trans hbk', u1', u2', x1', x2', by rw [el, eh, ptrs_snoc]; exact r1', by rw [el, eh, nums_snoc]; exact r2'⟩, ?_⟩
        simp [intOf]; omega
    · obtain rfl : k = ps.length := by omega
      simp only [List.take_length] at *
      clear hs hr htl
      by_cases h64 : 64 < ps.length
      · by_cases hz : 4 * (held ps).length < ps.length
        · go_wp2_with (go_at_call 20; refine (HY.out ⟨h64, hz⟩ _ hbk hout).mono ?_; rintro e w' ⟨rfl, hR⟩)
          go_end0
          exact ⟨rfl, hR⟩
        · go_wp2
          go_end0
          exact ⟨rfl, HN.out (fun h => hz h.2) _ hbk hout⟩
      · go_wp2
        go_end0
        exact ⟨rfl, HN.out (fun h => h64 h.1) _ hbk hout⟩

set_option maxHeartbeats 1000000 in
theorem each14n (B p1 p2 hb sb : Nat) (w0 w : World)
    (hs : St w0 hb sb (.slice none 0 0) []) (hB : B = w0.heap.size) (hbel : Below B w0 w) (ho : EachOut B p1 p2 [] w) (R : World → Prop)
    (hno : ∀ wr, Below B w0 wr → EachOut B p1 p2 [] wr → R wr) :
    Calls Try.prog 14 #[.pointer (some ⟨hb, 0, none⟩), .func (.func 15) #[] #[.pointer (some ⟨p1, 0, none⟩), .pointer (some ⟨p2, 0, none⟩)]] w fun e w' => e = .returned (.tuple #[]) ∧ R w' := by
  have HN : Hid (R w) := hno w hbel ho
  clear hno
  have hs' := hs.below hbel (by omega)
  obtain ⟨hc, q1, q2, q3⟩ := hs'.hor
  have c0 := q1.cell q2
  have sbx := hs'.box
  go_enter Try.func14, Try.ntmps14
  go_wp2_with (go_at_call 13; refine (all13 _ sb _ _ c0 sbx).mono ?_; rintro e w' ⟨rfl, rfl⟩)
  refine wp_loop_rounds 1 ?_
  rw [rounds_succ]
  go_wp2
  go_end0
  exact ⟨rfl, HN.out⟩
end Go.Proofs.Qxb6612298a
