/- The law FnEachHeldReportsHeldSlotsAndShrinks, walked. -/
import Derived.Test.Qxb6612298aFirsts
import Derived.Deep.DeepCutAuto
import Derived.Deep.QuietTactic
import Derived.BigQuiet
import Derived.WalkSmall
import Derived.OpenShut
namespace Go.Proofs.Qxb6612298a
open Go.RowKit

/-- what the walk is told of a slice of integers that came in -/
def IsRow (k : IntKind) (w : World) (a : Option Addr) (len cap : Nat) (zs : List Int) : Prop :=
  (a = none ∧ len = 0 ∧ cap = 0 ∧ zs = []) ∨
  ∃ x, a = some x ∧ len ≤ cap ∧ cap ≤ maxLen ∧ zs.length = cap ∧ (∀ i, i < zs.length → w.cell? (x.add i) = some (.int k (zs.getD i 0))) ∧ ∀ n ∈ zs, (Lit.int k n).wf = true

theorem zzb5no (a : Option Addr) (len cap : Nat) (w : World) (h : 1048576 < len) (hm : len ≤ maxLen) :
    Calls Try.prog 5 #[.slice a len cap] w fun e w' => e = .returned (.bool false) ∧ w' = w := by
  unfold maxLen at hm
  go_enter Try.func5, Try.ntmps5
  go_wp2
  go_ret
  exact ⟨rfl, rfl⟩

/-- 'firsts' behind the copy -/
def Copied (w : World) (n : Nat) (ls : List Int) (v : Value) (wc : World) : Prop :=
  ∃ a, v = .slice a n n ∧ ls.length = n ∧ (∀ z ∈ ls, 0 ≤ z ∧ z ≤ MaxU) ∧ Row wc a 24 (ls.map (Value.int .u64)) ∧ Below w.heap.size w wc

theorem held_at (ps : List (Nat × Int)) (j : Nat) (h : j < ps.length) (hf : ps[j].2 ≠ 0) : (held ps)[(held (ps.take j)).length]? = some ps[j] := by
  have e2 : held ps = held (ps.take j) ++ (ps[j] :: held (ps.drop (j + 1))) := by
    have e : held ps = held (ps.take j) ++ held (ps.drop j) := by unfold held; rw [← List.filter_append, List.take_append_drop]
    rw [e, split_at ps j h]
    congr 1
    unfold held
    rw [List.filter_cons_of_pos (by simp [hf])]
  rw [e2]; simp

/-- the slices behind eachHeld, whether the horizon shrank or not -/
def Known (w : World) (hb rb : Nat) (ps : List (Nat × Int)) (a : Option Addr) (ls : List Int) (w5 : World) : Prop :=
  ∃ sb9 a9 n9 c9, (∃ hc, Box w5 hb 58 hc ∧ hc[0]? = some (.pointer (some ⟨sb9, 0, none⟩))) ∧ Box w5 sb9 27 #[.slice a9 n9 c9] ∧ Row w5 (some ⟨rb, 0, none⟩) 31 (ptrs ps) ∧ Row w5 a 24 (ls.map (Value.int .u64)) ∧ Below w.heap.size w w5 ∧
    ((¬ Shrinks ps ∧ n9 = ps.length ∧ Row w5 a9 31 (ptrs ps)) ∨ (Shrinks ps ∧ n9 = (held ps).length ∧ Row w5 a9 31 (ptrs (held ps))))

theorem known {w w3 w5 : World} {hb sb rb n : Nat} {ps : List (Nat × Int)} {a : Option Addr} {ls : List Int} (hst : St w3 hb sb (.slice (some ⟨rb, 0, none⟩) n n) ps) (hrow : Row w3 a 24 (ls.map (Value.int .u64))) (hb3 : Below w.heap.size w w3) (hh : w.heap.size ≤ hb) (hp : ∀ p ∈ ps, w.heap.size ≤ p.1) (haft : After w3 hb ps w5) : Known w hb rb ps a ls w5 := by
  obtain ⟨a0', c0', hsv, rO⟩ := hst.shape
  simp only [Value.slice.injEq] at hsv
  obtain ⟨rfl, hnn, rfl⟩ := hsv
  have hbb := hst.box
  rcases haft with ⟨hns, hb5⟩ | ⟨hsh, hk5, hsl5, sb', sv', hst5⟩
  · have hst5 := hst.below hb5 (Nat.le_refl _)
    obtain ⟨hc, q1, q2, q3⟩ := hst5.hor
    exact ⟨sb, _, _, _, ⟨hc, q1, q2⟩, hst5.box, rO.below hb5 (Nat.le_refl _), hrow.below hb5 (Nat.le_refl _), hb3.trans (hb5.mono hb3.size), .inl ⟨hns, hnn, rO.below hb5 (Nat.le_refl _)⟩⟩
  · obtain ⟨hc, q1, q2, q3⟩ := hst5.hor
    obtain ⟨a9, c9, rfl, r9⟩ := hst5.shape
    refine ⟨sb', a9, _, c9, ⟨hc, q1, q2⟩, hst5.box, rO.kept hk5 (fun g cs hx => touched_of hst hx (by decide) (by decide)), hrow.kept hk5 (fun g cs hx => touched_of hst hx (by decide) (by decide)), hk5.below hb3 hb3.size ?_, .inr ⟨hsh, rfl, r9⟩⟩
    intro k hk ht
    rcases ht with rfl | ht
    · omega
    · obtain ⟨p, hp', rfl⟩ := List.mem_map.1 ht
      have := hp p hp'
      omega

theorem ptr_neq_same (a : Addr) (w : World) : (binOp .neq 31 (.pointer (some a)) (.pointer (some a))).run Try.prog w = .ok (.bool false) w := by
  have hsz : (Try.prog.info? 60).map (·.size) = some 66 := by kernel_rfl
  obtain ⟨i, hi, -⟩ := Option.map_eq_some_iff.1 hsz
  have h : ∀ d : Nat, (Op.equalIn (d + 1) 31 (.pointer (some a)) (.pointer (some a))).run Try.prog w = .ok true w := fun d => by
    simp [Op.equalIn, run_underlying Try.underlying31, sizeOf, typeInfo, hi, sameAddr]
  simp only [binOp]
  simp [Op.equal, Op.maxDepth, h 9999]

theorem bounds_MaxU {z : Int} (h : (Lit.int .u64 z).wf = true) : 0 ≤ z ∧ z ≤ MaxU := by
  have := bounds_u64 h
  unfold MaxU; omega

set_option maxRecDepth 100000 in
set_option maxHeartbeats 2000000 in
theorem walk3 (a0 : Option Addr) (n cap0 : Nat) (z0 : List Int) (w : World) (w0 : IsRow .u64 w a0 n cap0 z0) (hn : n ≤ 65536) :
    Calls Try.prog 3 #[.slice a0 n cap0] w fun e w' => e = .returned (.bool true) ∧ Below w.heap.size w w' := by
  have hnot : ∀ (x : Bool) (w : World), (Op.unary .not (.bool x)).run Try.prog w = .ok (.bool (!x)) w := fun _ _ => rfl
  have hnil := fun (a : Option Addr) (l c : Nat) (w : World) => run_neq_slice_nil_any (P := Try.prog) w 22 24 a l c 0 0 Try.underlying22
  go_enter Try.func3, Try.ntmps3
  go_upto_if 22 with (go_at_call 5; refine (zzb5 _ _ _ _ (by omega)).mono ?_; rintro e w' ⟨rfl, hw'⟩; rw [hw']; clear hw' w')
  go_cut [0, 3] from 15 to 29 (fun s0 _ wc => Copied w n (z0.take n) s0 wc)
  case first =>
    rcases w0 with ⟨rfl, rfl, rfl, rfl⟩ | ⟨x, rfl, hl, hm, hzl, hcell, hwf⟩
    · go_wp2
      go_meet
      case rel => exact ⟨none, rfl, by simp, by simp, .inl (by simp), Below.refl _ _⟩
    · obtain ⟨i24, hi, hz0, hz1, hz2⟩ := info_parts info24
      go_wp2_with (at_make; refine wpList_make_full _ rfl _ _ 22 rfl w.heap.size 24 i24 (.int .u64 0) 1 Try.underlying22 hi hz0 hz1 _ _ _ _ n rfl rfl rfl rfl (by rw [hz2]; omega) (by unfold maxLen; omega) (by simp) ?_)
      intro w1 o1 g1
      have hb1 := (Below.refl w.heap.size w).grown g1 (by simp) (by simp)
      obtain ⟨-, ⟨h0, -⟩ | ⟨g', cap', cur, hv, -, hbx, -, -, hcs, -, -⟩⟩ := owns_split o1
      · simp at h0
      simp only [Value.slice.injEq, Option.some.injEq, Addr.mk.injEq, and_true, true_and] at hv
      obtain ⟨rfl, rfl⟩ := hv
      have hsrc : ∀ j v, ((z0.take n).map (Value.int .u64))[j]? = some v → w1.cell? (x.add j) = some v := by
        intro j v hv
        have hj : j < n := by
          have := (List.getElem?_eq_some_iff.1 hv).1
          simp at this; omega
        have hjc := hcell j (by omega)
        have hlt : (x.add j).block < w.heap.size := by
          have := World.shape?_of_cell? hjc
          obtain ⟨e, m, hs, -⟩ := this
          unfold World.shape? at hs
          split at hs
          · rename_i hh; exact (Array.getElem?_eq_some_iff.1 hh).1
          · cases hs
        rw [hb1.cell hlt, hjc]
        simp [hj, show j < z0.length by omega] at hv
        simp [← hv, List.getD, show j < z0.length by omega]
      obtain ⟨w2, hcp, hb2, hbel⟩ := copy_all (P := Try.prog) (dT := 22) (sT := 22) (e := 24) (g := w.heap.size) (n := n) (cap := cap0) (x := x) (cs := (z0.take n).map (Value.int .u64)) Try.underlying22 (by kernel_rfl) hbx hcs (by simp; omega) hsrc (ints_one _ _)
      have hb3 := hbel _ _ hb1 (Nat.le_refl _)
      clear hbel hsrc hcell hbx hb1 o1 g1 hcs
      go_wp2
      go_meet
      case rel => exact ⟨_, rfl, by simp; omega, fun z hz => bounds_MaxU (hwf z (List.mem_of_mem_take hz)), .inr ⟨_, _, rfl, hb2, by intro i u hu; simpa using hu⟩, hb3⟩
  case rest =>
    clear w0
    obtain ⟨a, rfl, hll, hbd, hrow, hbel⟩ := hcut
    generalize z0.take n = ls at *
    go_wp2
    go_loop [4] (fun i => ∃ k : Nat, k ≤ n ∧ i = .int .i64 k ∧ ∀ j, j < k → ∀ z, ls[j]? = some z → z < MaxU) (fun i => n - (intOf i).toNat)
    case atStart => exact ⟨0, Nat.zero_le _, rfl, by intro j hj; omega⟩
    case round =>
      obtain ⟨k, hk, rfl, hmx⟩ := hrel
      by_cases hlt : k < n
      · have hkl : k < ls.length := by omega
        obtain ⟨g, rfl, cR⟩ := hrow.at (i := k) (u := .int .u64 ls[k]) (by simp [hkl])
        have hb := hbd ls[k] (List.getElem_mem hkl)
        by_cases hq : ls[k] = MaxU
        · have hq' : (ls[k] == 18446744073709551615) = true := by rw [hq]; rfl
          clear hq hb hbd
          go_wp2
          go_ret
          exact ⟨rfl, hbel⟩
        · have hq' : (ls[k] == 18446744073709551615) = false := by simpa [MaxU] using hq
          go_wp2
          go_round
          case rel =>
            refine ⟨k + 1, by omega, by go_num, ?_⟩
            intro j hj z hz
            by_cases hjk : j = k
            · subst hjk
              simp [hkl] at hz
              subst hz
              omega
            · exact hmx j (by omega) z hz
          case measure => simp [intOf]; omega
      · obtain rfl : k = n := by omega
        have hall : ∀ z ∈ ls, 0 ≤ z ∧ z < MaxU := by
          intro z hz
          obtain ⟨j, hj, rfl⟩ := List.getElem_of_mem hz
          exact ⟨(hbd _ hz).1, hmx j (by omega) _ (by simp [hj])⟩
        clear hmx hbd
        go_wp2_with fail
        refine (new6' a k ls wc hn hll hrow).mono ?_
        rintro e w3 ⟨hb, sb, rb, ps, rfl, hst, hpl, hps, hhb, hrb, hpb, hbel3⟩
        have hrow3 := hrow.below hbel3 (Nat.le_refl _)
        have hb3 := hbel.trans (hbel3.mono hbel.size)
        have hrng : ∀ p ∈ ps, 0 ≤ p.2 ∧ p.2 < MaxU := fun p hp => hall p.2 (by rw [← hps]; exact List.mem_map.2 ⟨p, hp, rfl⟩)
        obtain ⟨hc, q1, q2, q3⟩ := hst.hor
        have c0 := q1.cell q2
        have hbx := hst.box
        have hE := each8' hb sb _ ps w3 hst hrng (by omega)
        clear hrow hbel3 hall hrng q1 q2 q3
        have HP : Hid (ps.map (·.2) = ls) := hps
        have HL : Hid (ps.length = k) := hpl
        clear hps hpl
        go_wp2_with (go_at_call 7; refine (all7 _ sb _ _ c0 hbx).mono ?_; rintro e w' ⟨rfl, hw'⟩; rw [hw']; clear hw' w')
        refine hE.mono ?_
        rintro e w5 ⟨a1, c1, a2, c2, rfl, r1, r2, haft⟩
        go_wp2_with fail
        clear hE c0 hbx
        have hH := held_le ps
        have hK : Known w hb rb ps a ls w5 := known hst hrow3 hb3 (Nat.le_trans hbel.size hhb) (fun p hp => Nat.le_trans hbel.size (hpb p hp)) haft
        obtain ⟨sb9, a9, n9, c9, ⟨hc9, q1, q2⟩, hbx, rO5, rF5, hbe, hcase⟩ := hK
        have c0 := q1.cell q2
        clear hst q1 q2 hrow3 hb3 haft hbel
        go_wp2_with (go_at_call 7; refine (all7 _ sb9 _ _ c0 hbx).mono ?_; rintro e w' ⟨rfl, hw'⟩; rw [hw']; clear hw' w')
        clear c0 hbx
        go_loopw [10, 11] (fun kk i wr => ∃ j : Nat, j ≤ k ∧ i = .int .i64 j ∧ kk = .int .i64 (held (ps.take j)).length ∧ Below w5.heap.size w5 wr) (fun _ i _ => k - (intOf i).toNat)
        case atStart => exact ⟨0, Nat.zero_le _, rfl, rfl, Below.refl _ _⟩
        case round =>
          obtain ⟨j, hj, rfl, rfl, hbj⟩ := hrel
          have hlp := HL.out
          have hH2 : (held ps).length ≤ 65536 := by omega
          by_cases hlt : j < k
          · have hjl : j < ps.length := by omega
            have hlj : ls[j]? = some ps[j].2 := by rw [← HP.out]; simp [hjl]
            obtain ⟨g, rfl, cF⟩ := (rF5.below hbj (Nat.le_refl _)).at (i := j) (u := .int .u64 ps[j].2) (by simp [hlj])
            obtain ⟨gO, hgO, cO⟩ := (rO5.below hbj (Nat.le_refl _)).at (i := j) (u := .pointer (some ⟨ps[j].1, 0, none⟩)) (by simp [ptrs, hjl])
            simp only [Option.some.injEq, Addr.mk.injEq, and_true] at hgO
            subst hgO
            have hsn := take_snoc ps j hjl
            by_cases hf : ps[j].2 = 0
            · generalize hp : ps[j] = p at *
              obtain ⟨b, f⟩ := p
              simp only at *
              have hf0 : (f == 0) = true := by simp [hf]
              have HS : Hid (List.take (j + 1) ps = List.take j ps ++ [(b, f)]) := hsn
              have HF : Hid (f = 0) := hf
              clear hsn hp hf hlj hlp
              go_wp2
              have eh : held (ps.take (j + 1)) = held (ps.take j) := by rw [HS.out, held_snoc]; simp [HF.out]
              refine ⟨⟨j + 1, by omega, by go_num, by rw [eh], hbj⟩, ?_⟩
              simp [intOf]; omega
            · have hat := held_at ps j hjl hf
              generalize hp : ps[j] = p at *
              obtain ⟨b, f⟩ := p
              simp only at *
              have hf0 : (f == 0) = false := by simp [hf]
              have HS : Hid (List.take (j + 1) ps = List.take j ps ++ [(b, f)]) := hsn
              have HF : Hid (¬ f = 0) := hf
              have hml : (held (ps.take j)).length < (held ps).length := (List.getElem?_eq_some_iff.1 hat).1
              obtain ⟨g1, rfl, cA⟩ := (r1.below hbj (Nat.le_refl _)).at (i := (held (ps.take j)).length) (u := .pointer (some ⟨b, 0, none⟩)) (by simp [ptrs, hat])
              obtain ⟨g2, rfl, cB⟩ := (r2.below hbj (Nat.le_refl _)).at (i := (held (ps.take j)).length) (u := .int .u64 f) (by simp [nums, hat])
              clear hsn hp hf hlj hlp hat
              have hd : decide (((held ps).length : Int) ≤ ((held (ps.take j)).length : Int)) = false := by simp; omega
              have hpn := ptr_neq_same
              go_wp2
              go_quiet (fail)
              go_wp2
              have eh : held (ps.take (j + 1)) = held (ps.take j) ++ [(b, f)] := by rw [HS.out, held_snoc]; simp [HF.out]
              have el : (held (ps.take (j + 1))).length = (held (ps.take j)).length + 1 := by rw [eh]; simp
              refine ⟨⟨j + 1, by omega, by go_num, by rw [el]; go_num, below_drewN hbj _⟩, ?_⟩
              simp [intOf]; omega
          · obtain rfl : j = k := by omega
            have htk : ps.take j = ps := by rw [← hlp]; simp
            rw [htk]
            clear rF5 htk HP
            rcases hcase with ⟨hns, rfl, r9⟩ | ⟨hsh, rfl, r9⟩
            · have r9' := r9.below hbj (Nat.le_refl _)
              have rO' := rO5.below hbj (Nat.le_refl _)
              have hbw := hbe.trans (hbj.mono hbe.size)
              clear r9 rO5 hbj r1 r2 hbe
              unfold Shrinks at hns
              have hpn := ptr_neq_same
              by_cases h64 : 64 < ps.length
              all_goals
                have hz : 64 < ps.length → ¬ 4 * (held ps).length < ps.length := by omega
                clear hns
                rw [hlp] at h64 hz
                try (have hz' : decide ((4 : Int) * ((held ps).length : Int) < (j : Int)) = false := by have := hz h64; simp; omega)
                clear hz
                go_wp2
                go_loopw [13] (fun i wq => ∃ q : Nat, q ≤ j ∧ i = .int .i64 q ∧ Below wr.heap.size wr wq) (fun i _ => j - (intOf i).toNat)
                case atStart => exact ⟨0, Nat.zero_le _, rfl, Below.refl _ _⟩
                case round =>
                  obtain ⟨q, hq, rfl, hbq⟩ := hrel
                  by_cases hql : q < j
                  · have hqp : q < ps.length := by omega
                    obtain ⟨g9, rfl, cA⟩ := (r9'.below hbq (Nat.le_refl _)).at (i := q) (u := .pointer (some ⟨ps[q].1, 0, none⟩)) (by simp [ptrs, hqp])
                    obtain ⟨gO, hgO, cO⟩ := (rO'.below hbq (Nat.le_refl _)).at (i := q) (u := .pointer (some ⟨ps[q].1, 0, none⟩)) (by simp [ptrs, hqp])
                    simp only [Option.some.injEq, Addr.mk.injEq, and_true] at hgO
                    subst hgO
                    generalize ps[q].1 = b at cA cO
                    go_wp2
                    go_quiet (fail)
                    go_wp2
                    refine ⟨⟨q + 1, by omega, by go_num, below_drewN hbq _⟩, ?_⟩
                    simp [intOf]; omega
                  · go_wp2
                    go_ret
                    exact ⟨rfl, hbw.trans (hbq.mono hbw.size)⟩
            · have r9' := r9.below hbj (Nat.le_refl _)
              have rO' := r1.below hbj (Nat.le_refl _)
              have hbw := hbe.trans (hbj.mono hbe.size)
              clear r9 rO5 hbj r1 r2 hbe
              obtain ⟨h64, h4⟩ := hsh
              rw [hlp] at h64 h4
              have h64' : decide ((64 : Int) < (j : Int)) = true := by simp; omega
              have h4' : decide ((4 : Int) * ((held ps).length : Int) < (j : Int)) = true := by simp; omega
              have hpn := ptr_neq_same
              go_wp2
              go_loopw [14] (fun i wq => ∃ q : Nat, q ≤ (held ps).length ∧ i = .int .i64 q ∧ Below wr.heap.size wr wq) (fun i _ => (held ps).length - (intOf i).toNat)
              case atStart => exact ⟨0, Nat.zero_le _, rfl, Below.refl _ _⟩
              case round =>
                obtain ⟨q, hq, rfl, hbq⟩ := hrel
                by_cases hql : q < (held ps).length
                · obtain ⟨g9, rfl, cA⟩ := (r9'.below hbq (Nat.le_refl _)).at (i := q) (u := .pointer (some ⟨(held ps)[q].1, 0, none⟩)) (by simp [ptrs, hql])
                  obtain ⟨g1, rfl, cO⟩ := (rO'.below hbq (Nat.le_refl _)).at (i := q) (u := .pointer (some ⟨(held ps)[q].1, 0, none⟩)) (by simp [ptrs, hql])
                  generalize (held ps)[q].1 = b at cA cO
                  go_wp2
                  go_quiet (fail)
                  go_wp2
                  refine ⟨⟨q + 1, by omega, by go_num, below_drewN hbq _⟩, ?_⟩
                  simp [intOf]; omega
                · go_wp2
                  go_ret
                  exact ⟨rfl, hbw.trans (hbq.mono hbw.size)⟩

set_option maxRecDepth 100000 in
set_option maxHeartbeats 1000000 in
theorem walk3big (a0 : Option Addr) (n cap0 : Nat) (w : World) (hm : n ≤ maxLen) (hn : 65536 < n) :
    Calls Try.prog 3 #[.slice a0 n cap0] w fun e w' => e = .returned (.bool true) ∧ Below w.heap.size w w' := by
  have hnot : ∀ (x : Bool) (w : World), (Op.unary .not (.bool x)).run Try.prog w = .ok (.bool (!x)) w := fun _ _ => rfl
  by_cases h : n ≤ 1048576
  · go_enter Try.func3, Try.ntmps3
    go_wp2_with (go_at_call 5; refine (zzb5 _ _ _ _ h).mono ?_; rintro e w' ⟨rfl, hw'⟩; rw [hw']; clear hw' w')
    go_ret
    exact ⟨rfl, Below.refl _ _⟩
  · go_enter Try.func3, Try.ntmps3
    go_wp2_with (go_at_call 5; refine (zzb5no _ _ _ _ (by omega) hm).mono ?_; rintro e w' ⟨rfl, hw'⟩; rw [hw']; clear hw' w')
    go_ret
    exact ⟨rfl, Below.refl _ _⟩

theorem IsRow.le {k : IntKind} {w : World} {a : Option Addr} {n cap : Nat} {zs : List Int} (h : IsRow k w a n cap zs) : n ≤ maxLen := by
  rcases h with ⟨-, rfl, -⟩ | ⟨x, -, h1, h2, -⟩
  · exact Nat.zero_le _
  · omega

theorem walk3all (a0 : Option Addr) (n cap0 : Nat) (z0 : List Int) (w : World) (w0 : IsRow .u64 w a0 n cap0 z0) :
    Calls Try.prog 3 #[.slice a0 n cap0] w fun e w' => e = .returned (.bool true) ∧ Below w.heap.size w w' := by
  by_cases h : n ≤ 65536
  · exact walk3 a0 n cap0 z0 w w0 h
  · exact walk3big a0 n cap0 w w0.le (by omega)
end Go.Proofs.Qxb6612298a
