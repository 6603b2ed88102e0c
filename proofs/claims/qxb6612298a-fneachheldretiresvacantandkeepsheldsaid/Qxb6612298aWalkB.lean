/- The law FnEachHeldRetiresVacantAndKeepsHeld, walked. -/
import Derived.Test.Qxb6612298aTwo
namespace Go.Proofs.Qxb6612298a
open Go.RowKit

theorem zzb9 (a : Option Addr) (len cap : Nat) (w : World) (h : len ≤ 1048576) :
    Calls Try.prog 9 #[.slice a len cap] w fun e w' => e = .returned (.bool true) ∧ w' = w := by
  go_enter Try.func9, Try.ntmps9
  go_wp2
  go_ret
  exact ⟨rfl, rfl⟩
theorem zzb9no (a : Option Addr) (len cap : Nat) (w : World) (h : 1048576 < len) (hm : len ≤ maxLen) :
    Calls Try.prog 9 #[.slice a len cap] w fun e w' => e = .returned (.bool false) ∧ w' = w := by
  unfold maxLen at hm
  go_enter Try.func9, Try.ntmps9
  go_wp2
  go_ret
  exact ⟨rfl, rfl⟩

set_option maxRecDepth 100000 in
set_option maxHeartbeats 2000000 in
theorem walk4 (a0 : Option Addr) (n cap0 : Nat) (z0 : List Int) (w : World) (w0 : IsRow .u64 w a0 n cap0 z0) (hn : n ≤ 65536) :
    Calls Try.prog 4 #[.slice a0 n cap0] w fun e w' => e = .returned (.bool true) ∧ Below w.heap.size w w' := by
  have hnot : ∀ (x : Bool) (w : World), (Op.unary .not (.bool x)).run Try.prog w = .ok (.bool (!x)) w := fun _ _ => rfl
  have hnil := fun (a : Option Addr) (l c : Nat) (w : World) => run_neq_slice_nil_any (P := Try.prog) w 22 24 a l c 0 0 Try.underlying22
  go_enter Try.func4, Try.ntmps4
  go_upto_if 28 with (go_at_call 9; refine (zzb9 _ _ _ _ (by omega)).mono ?_; rintro e w' ⟨rfl, hw'⟩; rw [hw']; clear hw' w')
  go_cut [0, 3] from 21 to 35 (fun s0 _ wc => Copied w n (z0.take n) s0 wc)
  case first =>
    rcases w0 with ⟨rfl, rfl, rfl, rfl⟩ | ⟨x, rfl, hl, hm, hzl, hcell, hwf⟩
    · go_wp2
      go_meet
      case rel => exact ⟨none, rfl, by simp, by simp, .inl (by simp), Below.refl _ _⟩
    · obtain ⟨i24, hi, hz0, hz1, hz2⟩ := info_parts info24
      go_wp2_with (at_make; refine wpList_make_full _ rfl _ _ 22 rfl w.heap.size 24 i24 (.int .u64 0) 1 Try.underlying22 hi hz0 hz1 _ _ _ _ n rfl rfl rfl rfl (by rw [hz2]; omega) (by unfold maxLen; omega) (by simp) ?_)
      intro w1 o1 g1
      have hb1 := (Below.refl w.heap.size w).grown g1 (by simp) (by simp)
      obtain ⟨-, ⟨h0, -⟩ | ⟨g', cap', cur, hv, -, hbx, -, -, hcs, -, -⟩⟩ := owns_split o1
      · simp at h0
      simp only [Value.slice.injEq, Option.some.injEq, Addr.mk.injEq, and_true, true_and] at hv
      obtain ⟨rfl, rfl⟩ := hv
      have hsrc : ∀ j v, ((z0.take n).map (Value.int .u64))[j]? = some v → w1.cell? (x.add j) = some v := by
        intro j v hv
        have hj : j < n := by
          have := (List.getElem?_eq_some_iff.1 hv).1
          simp at this; omega
        have hjc := hcell j (by omega)
        have hlt : (x.add j).block < w.heap.size := by
          have := World.shape?_of_cell? hjc
          obtain ⟨e, m, hs, -⟩ := this
          unfold World.shape? at hs
          split at hs
          · rename_i hh; exact (Array.getElem?_eq_some_iff.1 hh).1
          · cases hs
        rw [hb1.cell hlt, hjc]
        simp [hj, show j < z0.length by omega] at hv
        simp [← hv, List.getD, show j < z0.length by omega]
      obtain ⟨w2, hcp, hb2, hbel⟩ := copy_all (P := Try.prog) (dT := 22) (sT := 22) (e := 24) (g := w.heap.size) (n := n) (cap := cap0) (x := x) (cs := (z0.take n).map (Value.int .u64)) Try.underlying22 (by kernel_rfl) hbx hcs (by simp; omega) hsrc (ints_one _ _)
      have hb3 := hbel _ _ hb1 (Nat.le_refl _)
      clear hbel hsrc hcell hbx hb1 o1 g1 hcs
      go_wp2
      go_meet
      case rel => exact ⟨_, rfl, by simp; omega, fun z hz => bounds_MaxU (hwf z (List.mem_of_mem_take hz)), .inr ⟨_, _, rfl, hb2, by intro i u hu; simpa using hu⟩, hb3⟩
  case rest =>
    clear w0
    obtain ⟨a, rfl, hll, hbd, hrow, hbel⟩ := hcut
    generalize z0.take n = ls at *
    go_wp2
    go_loop [4] (fun i => ∃ k : Nat, k ≤ n ∧ i = .int .i64 k ∧ ∀ j, j < k → ∀ z, ls[j]? = some z → z < MaxU) (fun i => n - (intOf i).toNat)
    case atStart => exact ⟨0, Nat.zero_le _, rfl, by intro j hj; omega⟩
    case round =>
      obtain ⟨k, hk, rfl, hmx⟩ := hrel
      by_cases hlt : k < n
      · have hkl : k < ls.length := by omega
        obtain ⟨g, rfl, cR⟩ := hrow.at (i := k) (u := .int .u64 ls[k]) (by simp [hkl])
        have hb := hbd ls[k] (List.getElem_mem hkl)
        by_cases hq : ls[k] = MaxU
        · have hq' : (ls[k] == 18446744073709551615) = true := by rw [hq]; rfl
          clear hq hb hbd
          go_wp2
          go_ret
          exact ⟨rfl, hbel⟩
        · have hq' : (ls[k] == 18446744073709551615) = false := by simpa [MaxU] using hq
          go_wp2
          go_round
          case rel =>
            refine ⟨k + 1, by omega, by go_num, ?_⟩
            intro j hj z hz
            by_cases hjk : j = k
            · subst hjk
              simp [hkl] at hz
              subst hz
              omega
            · exact hmx j (by omega) z hz
          case measure => simp [intOf]; omega
      · obtain rfl : k = n := by omega
        have hall : ∀ z ∈ ls, 0 ≤ z ∧ z < MaxU := by
          intro z hz
          obtain ⟨j, hj, rfl⟩ := List.getElem_of_mem hz
          exact ⟨(hbd _ hz).1, hmx j (by omega) _ (by simp [hj])⟩
        clear hmx hbd
        go_wp2_with fail
        refine (new6' a k ls wc hn hll hrow).mono ?_
        rintro e w3 ⟨hb, sb, rb, ps, rfl, hst, hpl, hps, hhb, hrb, hpb, hbel3⟩
        have hrow3 := hrow.below hbel3 (Nat.le_refl _)
        have hb3 := hbel.trans (hbel3.mono hbel.size)
        have hrng : ∀ p ∈ ps, 0 ≤ p.2 ∧ p.2 < MaxU := fun p hp => hall p.2 (by rw [← hps]; exact List.mem_map.2 ⟨p, hp, rfl⟩)
        obtain ⟨hc, q1, q2, -⟩ := hst.hor
        have c0 := q1.cell q2
        have hbx := hst.box
        have hE := each8' hb sb _ ps w3 hst hrng (by omega)
        clear hrow hbel3 hall q1 q2
        have HP : Hid (ps.map (·.2) = ls) := hps
        have HL : Hid (ps.length = k) := hpl
        clear hps hpl
        go_wp2_with (go_at_call 7; refine (all7 _ sb _ _ c0 hbx).mono ?_; rintro e w' ⟨rfl, hw'⟩; rw [hw']; clear hw' w')
        refine hE.mono ?_
        rintro e w5 ⟨a1, c1, a2, c2, rfl, -, r2, haft⟩
        obtain ⟨qo, qs, sb9, a9, c9, F⟩ := first hst hrow3 hb3 (Nat.le_trans hbel.size hhb) (fun p hp => Nat.le_trans hbel.size (hpb p hp)) haft
        clear hE c0 hbx hst hrow3 hb3 haft hbel hhb hrb hpb
        have hqo : qo.length = k := F.len.trans HL.out
        have hF1 := firsts10 _ k qo w5 F.row F.slots (by omega)
        rw [hqo] at hF1
        go_wp2_with fail
        refine hF1.mono ?_
        rintro e w6 ⟨an, rfl, rn, hb6⟩
        have st6 := F.st.below hb6 (Nat.le_refl _)
        have hqs : qs.length ≤ 65536 := by have := F.le; have := HL.out; omega
        have hE2 := each8calm hb sb9 _ qs w6 st6 (fun p hp => hrng p (F.sub p hp)) hqs F.calm
        rw [F.held] at hE2
        clear hF1
        go_wp2_with fail
        refine hE2.mono ?_
        rintro e w7 ⟨a3, c3, a4, c4, rfl, r4, hb7⟩
        have st7 := st6.below hb7 (Nat.le_refl _)
        obtain ⟨hc7, q1, q2, -⟩ := st7.hor
        have c0 := q1.cell q2
        have hbx := st7.box
        have r9 := Row.ofOwns st7.row
        have r9' : Row w7 a9 31 (ptrs qs) := by
          obtain ⟨a', c', e, r⟩ := r9
          simp only [Value.slice.injEq] at e
          rw [e.1]; exact r
        have hF2 := firsts10 a9 c9 qs w7 r9' st7.slots hqs
        clear hE2 q1 q2 r9 r9' st6
        go_wp2_with (go_at_call 7; refine (all7 _ sb9 _ _ c0 hbx).mono ?_; rintro e w' ⟨rfl, hw'⟩; rw [hw']; clear hw' w')
        refine hF2.mono ?_
        rintro e w8 ⟨ar, rfl, rr, hb8⟩
        have bel57 : Below w5.heap.size w5 w7 := hb6.trans (hb7.mono hb6.size)
        have bel58 : Below w5.heap.size w5 w8 := bel57.trans (hb8.mono bel57.size)
        have bel68 : Below w6.heap.size w6 w8 := hb7.trans (hb8.mono hb7.size)
        have rF := F.firsts.below bel58 (Nat.le_refl _)
        have r1 := r2.below bel58 (Nat.le_refl _)
        have rN := rn.below bel68 (Nat.le_refl _)
        have r3 := r4.below hb8 (Nat.le_refl _)
        have hbw : Below w.heap.size w w8 := F.below.trans (bel58.mono F.below.size)
        have hcase := F.cases
        have hH := held_le ps
        clear hF2 c0 hbx st7 r2 rn r4 bel57 bel58 bel68 hb6 hb7 hb8 hrng F
        go_wp2
        go_loop [13, 14] (fun h i => ∃ j : Nat, j ≤ k ∧ i = .int .i64 j ∧ h = .int .i64 (held (ps.take j)).length) (fun _ i => k - (intOf i).toNat)
        case atStart => exact ⟨0, Nat.zero_le _, rfl, rfl⟩
        case round =>
          obtain ⟨j, hj, rfl, rfl⟩ := hrel
          have hlp := HL.out
          have hH2 : (held ps).length ≤ 65536 := by omega
          by_cases hlt : j < k
          · have hjl : j < ps.length := by omega
            have hlj : ls[j]? = some ps[j].2 := by rw [← HP.out]; simp [hjl]
            obtain ⟨g, rfl, cF⟩ := rF.at (i := j) (u := .int .u64 ps[j].2) (by simp [hlj])
            have hsn := take_snoc ps j hjl
            have hle := held_le (ps.take j)
            have htl : (ps.take j).length ≤ j := by simp; omega
            generalize hp : ps[j] = p at *
            obtain ⟨b, f⟩ := p
            simp only at *
            have HS : Hid (List.take (j + 1) ps = List.take j ps ++ [(b, f)]) := hsn
            clear hsn hp hlj hlp
            by_cases hf : f = 0
            · have hf0 : (f != 0) = false := by simp [hf]
              have HF : Hid (f = 0) := hf
              clear hf
              go_wp2
              go_round
              case rel =>
                have eh : held (ps.take (j + 1)) = held (ps.take j) := by rw [HS.out, held_snoc]; simp [HF.out]
                exact ⟨j + 1, by omega, by go_num, by rw [eh]⟩
              case measure => simp [intOf]; omega
            · have hf0 : (f != 0) = true := by simp [hf]
              have HF : Hid (¬ f = 0) := hf
              clear hf
              go_wp2
              go_round
              case rel =>
                have eh : held (ps.take (j + 1)) = held (ps.take j) ++ [(b, f)] := by rw [HS.out, held_snoc]; simp [HF.out]
                have el : (held (ps.take (j + 1))).length = (held (ps.take j)).length + 1 := by rw [eh]; simp
                exact ⟨j + 1, by omega, by go_num, by rw [el]; go_num⟩
              case measure => simp [intOf]; omega
          · obtain rfl : k = j := by omega
            have htk : ps.take k = ps := by rw [← hlp]; simp
            rw [htk]
            clear htk hlt hj
            rcases hcase with ⟨hns, e1, e2⟩ | ⟨hsh, rfl, rfl⟩
            · replace e1 := e1.symm
              replace e2 := e2.symm
              subst e1
              subst e2
              have rr' := rr
              unfold Shrinks at hns
              rw [hlp]
              by_cases h64 : 64 < ps.length
              all_goals
                have hz : 64 < ps.length → ¬ 4 * (held ps).length < ps.length := by omega
                clear hns
                rw [hlp] at h64 hz
                try (have hz' : decide ((4 : Int) * ((held ps).length : Int) < (k : Int)) = false := by have := hz h64; simp; omega)
                clear hz
                go_wp2
                go_loopw [16, 17] (fun kk i wr => ∃ q : Nat, q ≤ k ∧ i = .int .i64 q ∧ kk = .int .i64 (held (ps.take q)).length ∧ Below w8.heap.size w8 wr) (fun _ i _ => k - (intOf i).toNat)
                case atStart => exact ⟨0, Nat.zero_le _, rfl, rfl, Below.refl _ _⟩
                case round =>
                  obtain ⟨q, hq, rfl, rfl, hbq⟩ := hrel
                  by_cases hql : q < k
                  · have hqp : q < ps.length := by omega
                    have hlq : ls[q]? = some ps[q].2 := by rw [← HP.out]; simp [hqp]
                    obtain ⟨g, rfl, cF⟩ := (rF.below hbq (Nat.le_refl _)).at (i := q) (u := .int .u64 ps[q].2) (by simp [hlq])
                    obtain ⟨gn, rfl, cN⟩ := (rN.below hbq (Nat.le_refl _)).at (i := q) (u := .int .u64 ps[q].2) (nums_at ps q hqp)
                    have hsn := take_snoc ps q hqp
                    by_cases hf : ps[q].2 = 0
                    · generalize hp : ps[q] = p at *
                      obtain ⟨b, f⟩ := p
                      simp only at *
                      have HS : Hid (List.take (q + 1) ps = List.take q ps ++ [(b, f)]) := hsn
                      subst hf
                      clear hsn hp hlq
                      go_wp2
                      have eh : held (ps.take (q + 1)) = held (ps.take q) := by rw [HS.out, held_snoc]; simp
                      refine ⟨⟨q + 1, by omega, by go_num, by rw [eh], hbq⟩, ?_⟩
                      simp [intOf]; omega
                    · have hat := held_at ps q hqp hf
                      generalize hp : ps[q] = p at *
                      obtain ⟨b, f⟩ := p
                      simp only at *
                      have hf0 : (f == 0) = false := by simp [hf]
                      have hf1 : (f != 0) = true := by simp [hf]
                      have HS : Hid (List.take (q + 1) ps = List.take q ps ++ [(b, f)]) := hsn
                      have HF : Hid (¬ f = 0) := hf
                      have hml : (held (ps.take q)).length < (held ps).length := (List.getElem?_eq_some_iff.1 hat).1
                      obtain ⟨g1, rfl, cA⟩ := (r1.below hbq (Nat.le_refl _)).at (i := (held (ps.take q)).length) (u := .int .u64 f) (by simp [nums, hat])
                      obtain ⟨g2, rfl, cB⟩ := (r3.below hbq (Nat.le_refl _)).at (i := (held (ps.take q)).length) (u := .int .u64 f) (by simp [nums, hat])
                      clear hsn hp hf hlq hat
                      go_wp2
                      go_quiet (fail)
                      go_wp2
                      have eh : held (ps.take (q + 1)) = held (ps.take q) ++ [(b, f)] := by rw [HS.out, held_snoc]; simp [HF.out]
                      have el : (held (ps.take (q + 1))).length = (held (ps.take q)).length + 1 := by rw [eh]; simp
                      refine ⟨⟨q + 1, by omega, by go_num, by rw [el]; go_num, below_drewN hbq _⟩, ?_⟩
                      simp [intOf]; omega
                  · obtain rfl : q = k := by omega
                    go_wp2
                    go_loopw [20] (fun i wq => ∃ q' : Nat, q' ≤ q ∧ i = .int .i64 q' ∧ Below w8.heap.size w8 wq) (fun i _ => q - (intOf i).toNat)
                    case atStart => exact ⟨0, Nat.zero_le _, rfl, hbq⟩
                    case round =>
                      obtain ⟨q', hq', rfl, hbq'⟩ := hrel
                      by_cases hql' : q' < q
                      · have hqp : q' < ps.length := by omega
                        have hlq : ls[q']? = some ps[q'].2 := by rw [← HP.out]; simp [hqp]
                        obtain ⟨gr, rfl, cA⟩ := (rr'.below hbq' (Nat.le_refl _)).at (i := q') (u := .int .u64 ps[q'].2) (nums_at _ _ hqp)
                        obtain ⟨g1, rfl, cB⟩ := (rF.below hbq' (Nat.le_refl _)).at (i := q') (u := .int .u64 ps[q'].2) (by simp [hlq])
                        generalize ps[q'].2 = f at cA cB hlq
                        clear hlq
                        go_wp2
                        go_quiet (fail)
                        go_wp2
                        refine ⟨⟨q' + 1, by omega, by go_num, below_drewN hbq' _⟩, ?_⟩
                        simp [intOf]; omega
                      · go_wp2
                        go_ret
                        exact ⟨rfl, hbw.trans (hbq'.mono hbw.size)⟩
            · have rr' := rr
              obtain ⟨h64, h4⟩ := hsh
              rw [hlp] at h64 h4
              have h64' : decide ((64 : Int) < (k : Int)) = true := by simp; omega
              have h4' : decide ((4 : Int) * ((held ps).length : Int) < (k : Int)) = true := by simp; omega
              go_wp2
              go_loopw [16, 17] (fun kk i wr => ∃ q : Nat, q ≤ k ∧ i = .int .i64 q ∧ kk = .int .i64 (held (ps.take q)).length ∧ Below w8.heap.size w8 wr) (fun _ i _ => k - (intOf i).toNat)
              case atStart => exact ⟨0, Nat.zero_le _, rfl, rfl, Below.refl _ _⟩
              case round =>
                obtain ⟨q, hq, rfl, rfl, hbq⟩ := hrel
                by_cases hql : q < k
                · have hqp : q < ps.length := by omega
                  have hlq : ls[q]? = some ps[q].2 := by rw [← HP.out]; simp [hqp]
                  obtain ⟨g, rfl, cF⟩ := (rF.below hbq (Nat.le_refl _)).at (i := q) (u := .int .u64 ps[q].2) (by simp [hlq])
                  obtain ⟨gn, rfl, cN⟩ := (rN.below hbq (Nat.le_refl _)).at (i := q) (u := .int .u64 (if ps[q].2 = 0 then MaxU else ps[q].2)) (nums_retire_at ps q hqp)
                  have hsn := take_snoc ps q hqp
                  by_cases hf : ps[q].2 = 0
                  · generalize hp : ps[q] = p at *
                    obtain ⟨b, f⟩ := p
                    simp only at *
                    have HS : Hid (List.take (q + 1) ps = List.take q ps ++ [(b, f)]) := hsn
                    subst hf
                    have cN' : wr.cell? ⟨gn, q, none⟩ = some (.int .u64 18446744073709551615) := by rw [cN]; rfl
                    clear cN
                    clear hsn hp hlq
                    go_wp2
                    have eh : held (ps.take (q + 1)) = held (ps.take q) := by rw [HS.out, held_snoc]; simp
                    refine ⟨⟨q + 1, by omega, by go_num, by rw [eh], hbq⟩, ?_⟩
                    simp [intOf]; omega
                  · have hat := held_at ps q hqp hf
                    generalize hp : ps[q] = p at *
                    obtain ⟨b, f⟩ := p
                    simp only at *
                    have hf0 : (f == 0) = false := by simp [hf]
                    have hf1 : (f != 0) = true := by simp [hf]
                    have HS : Hid (List.take (q + 1) ps = List.take q ps ++ [(b, f)]) := hsn
                    have HF : Hid (¬ f = 0) := hf
                    have hml : (held (ps.take q)).length < (held ps).length := (List.getElem?_eq_some_iff.1 hat).1
                    obtain ⟨g1, rfl, cA⟩ := (r1.below hbq (Nat.le_refl _)).at (i := (held (ps.take q)).length) (u := .int .u64 f) (by simp [nums, hat])
                    obtain ⟨g2, rfl, cB⟩ := (r3.below hbq (Nat.le_refl _)).at (i := (held (ps.take q)).length) (u := .int .u64 f) (by simp [nums, hat])
                    rw [if_neg hf] at cN
                    clear hsn hp hf hlq hat
                    go_wp2
                    go_quiet (fail)
                    go_wp2
                    have eh : held (ps.take (q + 1)) = held (ps.take q) ++ [(b, f)] := by rw [HS.out, held_snoc]; simp [HF.out]
                    have el : (held (ps.take (q + 1))).length = (held (ps.take q)).length + 1 := by rw [eh]; simp
                    refine ⟨⟨q + 1, by omega, by go_num, by rw [el]; go_num, below_drewN hbq _⟩, ?_⟩
                    simp [intOf]; omega
                · obtain rfl : q = k := by omega
                  go_wp2
                  go_loopw [19] (fun i wq => ∃ q' : Nat, q' ≤ (held ps).length ∧ i = .int .i64 q' ∧ Below w8.heap.size w8 wq) (fun i _ => (held ps).length - (intOf i).toNat)
                  case atStart => exact ⟨0, Nat.zero_le _, rfl, hbq⟩
                  case round =>
                    obtain ⟨q', hq', rfl, hbq'⟩ := hrel
                    by_cases hql' : q' < (held ps).length
                    · obtain ⟨gr, rfl, cA⟩ := (rr'.below hbq' (Nat.le_refl _)).at (i := q') (u := .int .u64 (held ps)[q'].2) (nums_at _ _ hql')
                      obtain ⟨g1, rfl, cB⟩ := (r1.below hbq' (Nat.le_refl _)).at (i := q') (u := .int .u64 (held ps)[q'].2) (nums_at _ _ hql')
                      generalize (held ps)[q'].2 = f at cA cB
                      go_wp2
                      go_quiet (fail)
                      go_wp2
                      refine ⟨⟨q' + 1, by omega, by go_num, below_drewN hbq' _⟩, ?_⟩
                      simp [intOf]; omega
                    · go_wp2
                      go_ret
                      exact ⟨rfl, hbw.trans (hbq'.mono hbw.size)⟩

set_option maxRecDepth 100000 in
set_option maxHeartbeats 1000000 in
theorem walk4big (a0 : Option Addr) (n cap0 : Nat) (w : World) (hm : n ≤ maxLen) (hn : 65536 < n) :
    Calls Try.prog 4 #[.slice a0 n cap0] w fun e w' => e = .returned (.bool true) ∧ Below w.heap.size w w' := by
  have hnot : ∀ (x : Bool) (w : World), (Op.unary .not (.bool x)).run Try.prog w = .ok (.bool (!x)) w := fun _ _ => rfl
  by_cases h : n ≤ 1048576
  · go_enter Try.func4, Try.ntmps4
    go_wp2_with (go_at_call 9; refine (zzb9 _ _ _ _ h).mono ?_; rintro e w' ⟨rfl, hw'⟩; rw [hw']; clear hw' w')
    go_ret
    exact ⟨rfl, Below.refl _ _⟩
  · go_enter Try.func4, Try.ntmps4
    go_wp2_with (go_at_call 9; refine (zzb9no _ _ _ _ (by omega) hm).mono ?_; rintro e w' ⟨rfl, hw'⟩; rw [hw']; clear hw' w')
    go_ret
    exact ⟨rfl, Below.refl _ _⟩

theorem walk4all (a0 : Option Addr) (n cap0 : Nat) (z0 : List Int) (w : World) (w0 : IsRow .u64 w a0 n cap0 z0) :
    Calls Try.prog 4 #[.slice a0 n cap0] w fun e w' => e = .returned (.bool true) ∧ Below w.heap.size w w' := by
  by_cases h : n ≤ 65536
  · exact walk4 a0 n cap0 z0 w w0 h
  · exact walk4big a0 n cap0 w w0.le (by omega)
end Go.Proofs.Qxb6612298a
