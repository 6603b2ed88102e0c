/- The law FnTaskKeysNameByPosition, walked. -/
import Derived.Test.Qxb6612358aPos
import Derived.Deep.CutBlock
namespace Go.Proofs.Qxb6612358a
open Go.RowKit
set_option linter.unusedVariables false

set_option maxHeartbeats 1000000 in
theorem zzb7 (a b : Option Addr) (kl kc n c : Nat) (k : Int) (w : World) (h : kl + n ≤ 1048576) :
    Calls Try.prog 7 #[.slice a kl kc, .slice b n c, .int .i64 k] w fun e w' => e = .returned (.bool true) ∧ w' = w := by
  go_enter Try.func7, Try.ntmps7
  go_wp2
  go_ret
  exact ⟨rfl, rfl⟩
set_option maxHeartbeats 1000000 in
theorem zzb7no (a b : Option Addr) (kl kc n c : Nat) (k : Int) (w : World) (h : ¬ kl + n ≤ 1048576) (h1 : kl ≤ maxLen) (h2 : n ≤ maxLen) :
    Calls Try.prog 7 #[.slice a kl kc, .slice b n c, .int .i64 k] w fun e w' => e = .returned (.bool false) ∧ w' = w := by
  unfold maxLen at h1 h2
  by_cases k1 : kl ≤ 1048576
  · by_cases k2 : n ≤ 1048576
    · go_enter Try.func7, Try.ntmps7
      go_wp2
      go_ret
      exact ⟨rfl, rfl⟩
    · go_enter Try.func7, Try.ntmps7
      go_wp2
      go_ret
      exact ⟨rfl, rfl⟩
  · go_enter Try.func7, Try.ntmps7
    go_wp2
    go_ret
    exact ⟨rfl, rfl⟩

set_option maxRecDepth 100000 in
set_option maxHeartbeats 2000000 in
theorem walk3 (a0 : Option Addr) (kl kc : Nat) (z0 : List Int) (a1 : Option Addr) (n nc : Nat) (z1 : List Int) (a2 : Int) (w : World) (w0 : IsRow .u8 w a0 kl kc z0) (w1 : IsRow .i64 w a1 n nc z1)
    (hkl : kl ≤ 1048576) (hn : n ≤ 131072) (hsum : kl + 8 * n ≤ 1048576) :
    Calls Try.prog 3 #[.slice a0 kl kc, .slice a1 n nc, .int .i64 a2] w fun e w' => e = .returned (.bool true) ∧ Below w.heap.size w w' := by
  have hnot : ∀ (x : Bool) (w : World), (Op.unary .not (.bool x)).run Try.prog w = .ok (.bool (!x)) w := fun _ _ => rfl
  have hnil := fun (a : Option Addr) (l c : Nat) (w : World) => run_neq_slice_nil_any (P := Try.prog) w 22 5 a l c 0 0 Try.underlying22
  have hnil2 := fun (a : Option Addr) (l c : Nat) (w : World) => run_neq_slice_nil_any (P := Try.prog) w 23 3 a l c 0 0 Try.underlying23
  have hV := valid8 a0 a1 kl kc n nc (z1.take n) w w1.len (by omega) hkl w1.ints w1.wf
  have hd0 : decide ((1048576 : Int) < (kl : Int)) = false := by simp; omega
  have hd1 : decide ((131072 : Int) < (n : Int)) = false := by simp; omega
  go_enter Try.func3, Try.ntmps3
  go_wp2_with (go_at_call 7; refine (zzb7 _ _ _ _ _ _ _ _ (by omega)).mono ?_; rintro e w' ⟨rfl, hw'⟩; rw [hw']; clear hw' w')
  refine hV.mono ?_
  rintro e w' ⟨hw', h⟩
  rw [hw']
  clear hw' w' hV
  rcases h with rfl | ⟨rfl, ns, hns, hv⟩
  · go_wp2
    go_ret
    exact ⟨rfl, Below.refl _ _⟩
  · by_cases hk0 : a2 < 0
    · have hd2 : decide (a2 < 0) = true := by simpa using hk0
      go_wp2
      go_ret
      exact ⟨rfl, Below.refl _ _⟩
    · obtain ⟨k, rfl⟩ := Int.eq_ofNat_of_zero_le (Int.not_lt.1 hk0)
      have hd2 : decide (((k : Nat) : Int) < 0) = false := by simp
      by_cases hkn : k < n
      · have hd3 : decide ((n : Int) ≤ ((k : Nat) : Int)) = false := by simp; omega
        clear hk0
        go_upto_if 48 with fail
        go_cut [0, 7] from 15 to 55 (fun s _ wq => Copied w .u8 kl (z0.take kl) s wq)
        case first =>
          have hwf := w0.wf
          have hlen := w0.len
          rcases w0 with ⟨rfl, rfl, rfl, rfl⟩ | ⟨x, rfl, hl, hm, hzl, hcell, -⟩
          · go_wp2
            go_meet
            case rel => exact ⟨none, rfl, by simp, by simp, .inl (by simp), .inl (by simp), Below.refl _ _⟩
          · obtain ⟨ie, hi, hz0, hz1, hz2⟩ := info_parts info5
            go_wp2_with (at_make; refine wpList_make_full _ rfl _ _ 22 rfl w.heap.size 5 ie (.int .u8 0) 1 Try.underlying22 hi hz0 hz1 _ _ _ _ kl rfl rfl rfl rfl (by rw [hz2]; omega) (by unfold maxLen; omega) (by simp) ?_)
            intro wx o1 g1
            have hb1 := (Below.refl w.heap.size w).grown g1 (by simp) (by simp)
            obtain ⟨-, ⟨h0, -⟩ | ⟨g', cap', cur, hv', -, hbx, -, -, hcs, -, -⟩⟩ := owns_split o1
            · simp at h0
            simp only [Value.slice.injEq, Option.some.injEq, Addr.mk.injEq, and_true, true_and] at hv'
            obtain ⟨rfl, rfl⟩ := hv'
            obtain ⟨wy, hcp, hb2, hbel'⟩ := copy_all (P := Try.prog) (dT := 22) (sT := 22) (e := 5) (g := w.heap.size) (n := kl) (cap := kc) (x := x) (cs := (z0.take kl).map (Value.int .u8)) Try.underlying22 (by kernel_rfl) hbx hcs (by simp; omega) (src_cells (by omega) hcell hb1) (ints_oneCell _ _)
            have hb3 := hbel' _ _ hb1 (Nat.le_refl _)
            have HWF : Hid _ := And.intro hwf hlen
            clear hbel' hcell hbx hb1 o1 g1 hcs hwf hlen
            go_wp2
            go_meet
            case rel => exact ⟨_, rfl, HWF.out.2, HWF.out.1, Ints.ofList hb2, .inr ⟨_, rfl, Nat.le_refl _⟩, hb3⟩
        case rest =>
          clear w0
          obtain ⟨ka, rfl, hkll, hkwf, hki, hkg, hbel⟩ := hcut
          have HNS : Hid (z1.take n = ns.map (fun x : Nat => (x : Int))) := hns
          clear hns
          replace w1 := w1.below hbel (Nat.le_refl _)
          go_upto_if 57 with fail
          go_cut [1, 8] from 56 to 64 (fun s _ wq => Copied wc .i64 n (z1.take n) s wq)
          case first =>
            have hwf := w1.wf
            have hlen := w1.len
            rcases w1 with ⟨rfl, rfl, rfl, rfl⟩ | ⟨x, rfl, hl, hm, hzl, hcell, -⟩
            · exfalso; omega
            · obtain ⟨ie, hi, hz0, hz1, hz2⟩ := info_parts info3
              go_wp2_with (at_make; refine wpList_make_full _ rfl _ _ 23 rfl wc.heap.size 3 ie (.int .i64 0) 1 Try.underlying23 hi hz0 hz1 _ _ _ _ n rfl rfl rfl rfl (by rw [hz2]; omega) (by unfold maxLen; omega) (by simp) ?_)
              intro wx o1 g1
              have hb1 := (Below.refl wc.heap.size wc).grown g1 (by simp) (by simp)
              obtain ⟨-, ⟨h0, -⟩ | ⟨g', cap', cur, hv', -, hbx, -, -, hcs, -, -⟩⟩ := owns_split o1
              · simp at h0
              simp only [Value.slice.injEq, Option.some.injEq, Addr.mk.injEq, and_true, true_and] at hv'
              obtain ⟨rfl, rfl⟩ := hv'
              obtain ⟨wy, hcp, hb2, hbel'⟩ := copy_all (P := Try.prog) (dT := 23) (sT := 23) (e := 3) (g := wc.heap.size) (n := n) (cap := nc) (x := x) (cs := (z1.take n).map (Value.int .i64)) Try.underlying23 (by kernel_rfl) hbx hcs (by simp; omega) (src_cells (by omega) hcell hb1) (ints_oneCell _ _)
              have hb3 := hbel' _ _ hb1 (Nat.le_refl _)
              have HWF : Hid _ := And.intro hwf hlen
              clear hbel' hcell hbx hb1 o1 g1 hcs hwf hlen
              go_wp2
              go_meet
              case rel => exact ⟨_, rfl, HWF.out.2, HWF.out.1, Ints.ofList hb2, .inr ⟨_, rfl, Nat.le_refl _⟩, hb3⟩
          case rest =>
            obtain ⟨ea, rfl, hel, hewf, hei, heg, hbel2⟩ := hcut
            rw [HNS.out] at hei hel heg
            have hnl : ns.length = n := by simpa using hel
            have HNL : Hid (ns.length = n) := hnl
            have HKL : Hid ((z0.take kl).length = kl) := hkll
            have hbel3 : Below w.heap.size w wc := hbel.trans (hbel2.mono hbel.size)
            have hki2 := hki.below hbel2 (Nat.le_refl _)
            clear hki hnl hkll hel hewf hkwf hbel hbel2 HNS w1
            generalize z0.take kl = ks at *
            go_wp2_with fail
            refine (new9 _ _ _ _ _ _ _).mono ?_
            rintro e w' ⟨rfl, hw'⟩
            have hb9 : Below wc.heap.size wc (wc.alloc (.cells (tkC (.slice ka kl kl) (.slice ea n n)) 44)) := (Below.refl _ _).alloc (Nat.le_refl _) _
            have hx9 := Box.new wc (tkC (.slice ka kl kl) (.slice ea n n)) 44
            rw [hw']
            clear hw' w'
            have hki9 := hki2.below hb9 (Nat.le_refl _)
            have hei9 := hei.below hb9 (Nat.le_refl _)
            have hbw : Below w.heap.size w (wc.alloc (.cells (tkC (.slice ka kl kl) (.slice ea n n)) 44)) := hbel3.trans (hb9.mono hbel3.size)
            have c1 := hx9.cell (i := 1) (v := .slice ka kl kl) rfl
            have c2 := hx9.cell (i := 2) (v := .slice ea n n) rfl
            generalize wc.alloc (.cells (tkC (.slice ka kl kl) (.slice ea n n)) 44) = w9 at *
            generalize wc.heap.size = t at *
            clear hki2 hei hb9 hx9 hbel3
            have hkl' : k < ns.length := by rw [HNL.out]; exact hkn
            have hEk := hv.le k hkl'
            have hgap := hv.gap k hkl'
            have hcE : (ns.map (fun x : Nat => (x : Int)))[k]? = some ((ns.getD k 0 : Nat) : Int) := by simp [hkl', List.getD]
            have hcS : (k = 0 ∧ pre ns k = 0) ∨ (0 < k ∧ (ns.map (fun x : Nat => (x : Int)))[k - 1]? = some ((pre ns k : Nat) : Int)) := by
              by_cases h0 : k = 0
              · exact .inl ⟨h0, by simp [pre, h0]⟩
              · refine .inr ⟨by omega, ?_⟩
                have : k - 1 < ns.length := by omega
                simp [pre, h0, this, List.getD]
            have hne : ¬ ns.map (fun x : Nat => (x : Int)) = [] := by intro h; rw [h] at hcE; simp at hcE
            obtain ⟨eh, rfl, -⟩ := heg.resolve_left hne
            have hcells : ∀ i, i < ns.length → w9.cell? ⟨eh, i, none⟩ = some (.int .i64 ((ns.getD i 0 : Nat) : Int)) := by
              intro i hi
              obtain ⟨b', o', he', cS⟩ := hei9.at (i := i) (z := ((ns.getD i 0 : Nat) : Int)) (by simp [hi, List.getD])
              simp only [Option.some.injEq, Addr.mk.injEq, and_true] at he'
              obtain ⟨rfl, rfl⟩ := he'
              rw [Nat.zero_add] at cS
              exact cS
            have hcS' : (k = 0 ∧ pre ns k = 0) ∨ (0 < k ∧ w9.cell? ⟨eh, k - 1, none⟩ = some (.int .i64 ((pre ns k : Nat) : Int))) := by
              rcases hcS with h | ⟨h, h'⟩
              · exact .inl h
              · obtain ⟨b', o', he', cS⟩ := hei9.at h'
                simp only [Option.some.injEq, Addr.mk.injEq, and_true] at he'
                obtain ⟨rfl, rfl⟩ := he'
                rw [Nat.zero_add] at cS
                exact .inr ⟨h, cS⟩
            have hkne : ¬ ks = [] := by intro h; have := HKL.out; rw [h] at this; simp at this; omega
            obtain ⟨g, rfl, -⟩ := hkg.resolve_left hkne
            have hN := name10 t g eh kl n k (pre ns k) (ns.getD k 0) w9 hgap hEk hkl hkn (by omega) c1 c2 (hcells k hkl') hcS'
            have HPA : Hid (∀ p j, PosA ns p j → (j = k ↔ (pre ns k ≤ p ∧ p < ns.getD k 0))) := fun p j h => h.at hv hkl'
            generalize hES : ns.getD k 0 = E at *
            generalize hSS : pre ns k = S at *
            clear hcS hcS' hkne hne hcE c1 c2 hES hSS
            go_wp2_with (go_at_call 10; refine hN.mono ?_; rintro e w' ⟨⟨na, nc', rfl, hna⟩, m', hw'⟩; rw [hw']; clear hw' w')
            have hb10 : Below w.heap.size w (w9.drewN m') := below_drewN hbw _
            have hki10 := hki9.drewN m'
            have hc10 : ∀ i, i < ns.length → (w9.drewN m').cell? ⟨eh, i, none⟩ = some (.int .i64 ((ns.getD i 0 : Nat) : Int)) := hcells
            generalize w9.drewN m' = w10 at *
            clear hN hki9 hei9 hcells hbw
            obtain ⟨ie, hi, hz0, hz1, hz2⟩ := info_parts info5
            go_loopw [11, 12, 13, 14] (fun v jj sn pp wr => ∃ p j : Nat, p ≤ kl ∧ pp = .int .i64 p ∧ jj = .int .i64 j ∧ sn = .int .i64 (seenN S E p : Nat) ∧ PosB ns p j ∧ Below w10.heap.size w10 wr ∧ wr.ownsRow w10.heap.size 5 1 v (wantL ks S E p).length ((wantL ks S E p).map (Value.int .u8))) (fun _ _ _ pp _ => kl - (intOf pp).toNat)
            case atStart => exact ⟨0, 0, Nat.zero_le _, rfl, rfl, by simp [seenN], ⟨Nat.zero_le _, by intro i hi; omega, by omega⟩, Below.refl _ _, by simpa [wantL] using World.ownsRow_nil w10 _ 5 1⟩
            case round =>
              obtain ⟨p, j, hp, rfl, rfl, rfl, hpos, hbr, hown⟩ := hrel
              have hwl := want_le (ks := ks) (S := S) (E := E) (p := p)
              by_cases hlt : p < kl
              · have hpk : p < ks.length := by rw [HKL.out]; exact hlt
                obtain ⟨b', o', he', cK⟩ := (hki10.below hbr (Nat.le_refl _)).at (List.getElem?_eq_getElem hpk)
                simp only [Option.some.injEq, Addr.mk.injEq, and_true] at he'
                obtain ⟨rfl, rfl⟩ := he'
                rw [Nat.zero_add] at cK
                have hcr : ∀ i, i < ns.length → wr.cell? ⟨eh, i, none⟩ = some (.int .i64 ((ns.getD i 0 : Nat) : Int)) := fun i hi => by
                  have := hc10 i hi
                  rw [hbr.cell (p := ⟨eh, i, none⟩) (cell_lt this)]; exact this
                have HCR : Hid _ := hcr
                clear hcr
                go_upto_block 2 with fail
                go_cut [12] from 71 to 104 (fun jj wq => wq = wr ∧ ∃ j : Nat, jj = .int .i64 j ∧ PosA ns p j)
                case first =>
                  go_wp2
                  go_loop [12] (fun jj => ∃ j : Nat, jj = .int .i64 j ∧ PosI ns p j) (fun jj => n - (intOf jj).toNat)
                  case atStart => exact ⟨j, rfl, hpos.toI⟩
                  case round =>
                    obtain ⟨q, rfl, hI⟩ := hrel
                    have hqn : q ≤ n := by have := hI.1; rw [HNL.out] at this; exact this
                    by_cases hql : q < n
                    · have hqs : q < ns.length := by rw [HNL.out]; exact hql
                      have cQ := HCR.out q hqs
                      by_cases hle : ns.getD q 0 ≤ p
                      · have HI : Hid (PosI ns p (q + 1)) := hI.succ hqs hle
                        generalize ns.getD q 0 = x at cQ hle
                        go_wp2
                        go_round
                        case rel => exact ⟨q + 1, by go_num, HI.out⟩
                        case measure => simp [intOf]; omega
                      · have hA : PosA ns p q := ⟨hI, fun _ => by omega⟩
                        generalize ns.getD q 0 = x at cQ hle
                        go_wp2
                        go_meet
                        case rel => exact ⟨rfl, q, rfl, hA⟩
                    · have hA : PosA ns p q := ⟨hI, fun h => by rw [HNL.out] at h; omega⟩
                      go_wp2
                      go_meet
                      case rel => exact ⟨rfl, q, rfl, hA⟩
                case rest =>
                  obtain ⟨hwq, q, rfl, hA⟩ := hcut
                  have hwq' := hwq.symm
                  subst hwq'
                  have hiff := HPA.out p q hA
                  have hnx := hA.next
                  have hlr : w10.heap.size ≤ wr.heap.size := hbr.size
                  clear hA
                  by_cases hqk : q = k
                  · subst hqk
                    obtain ⟨hSp, hpE⟩ := hiff.1 rfl
                    have hsn := seen_in hSp hpE
                    by_cases h4 : S + 4 ≤ p
                    · have hw' := want_in hpk h4 hpE
                      have hwl' : (wantL ks S E (p + 1)).length = (wantL ks S E p).length + 1 := by rw [hw']; simp
                      have HW : Hid _ := And.intro hw' (And.intro hwl' hsn.2)
                      rw [hsn.1]
                      generalize ks[p] = z at *
                      clear hw' hwl' hsn hiff
                      go_wp2_with (at_builtin; refine wpList_app1 _ rfl _ _ 22 rfl w10.heap.size 5 ie (.int .u8 0) 1 Try.underlying22 hi hz0 hz1 hz2 rfl _ _ _ rfl (hown.alloc _) ⟨wr.heap.size, 0, none⟩ (.int .u8 z) rfl (cell_one_new _ _ _) rfl (by unfold maxLen; omega) (by omega) (by simp; omega) ?_)
                      intro g3 cap3 w3 q3 g3'
                      have hb3 : Below w10.heap.size w10 w3 := (hbr.alloc hlr _).grown g3' (by simp; omega) (owns_ge hown)
                      clear g3' hown
                      go_wp2
                      obtain ⟨e1, e2, e3⟩ := HW.out
                      refine ⟨⟨p + 1, q, by omega, by go_num, rfl, by rw [e3]; go_num, hnx, hb3, ?_⟩, ?_⟩
                      · rw [e2, e1, List.map_append]; exact q3
                      · simp [intOf]; omega
                    · have HW : Hid _ := And.intro (want_early (ks := ks) (S := S) (E := E) (p := p) (by omega)) hsn.2
                      rw [hsn.1]
                      clear hsn hiff
                      go_wp2
                      obtain ⟨e1, e3⟩ := HW.out
                      refine ⟨⟨p + 1, q, by omega, by go_num, rfl, by rw [e3]; go_num, hnx, hbr, ?_⟩, ?_⟩
                      · rw [e1]; exact hown
                      · simp [intOf]; omega
                  · have hout : ¬ (S ≤ p ∧ p < E) := fun h => hqk (hiff.2 h)
                    have e3 := seen_out (by omega) hout
                    have e1 : wantL ks S E (p + 1) = wantL ks S E p := by
                      by_cases hps : p < S + 4
                      · exact want_early hps
                      · exact want_late (by omega)
                    have HW : Hid _ := And.intro e1 e3
                    have hqk' : (((q : Nat) : Int) == ((k : Nat) : Int)) = false := by simp; omega
                    clear e1 e3 hiff hout hqk
                    go_wp2
                    obtain ⟨e1, e3⟩ := HW.out
                    refine ⟨⟨p + 1, q, by omega, by go_num, rfl, by rw [e3], hnx, hbr, ?_⟩, ?_⟩
                    · rw [e1]; exact hown
                    · simp [intOf]; omega
              · have hpe : p = kl := by omega
                have e1 : wantL ks S E kl = (ks.drop (S + 4)).take (E - S - 4) := by rw [← HKL.out]; exact want_end (by rw [HKL.out]; exact hEk)
                rw [hpe, e1] at hown
                obtain ⟨aw, cw, rfl, hiw⟩ := Ints.ofOwns hown
                have hlw : ((ks.drop (S + 4)).take (E - S - 4)).length = E - S - 4 := by simp; have := HKL.out; omega
                have hin : Ints wr na .u8 ((ks.drop (S + 4)).take (E - S - 4)) := by
                  rcases hna with h0 | rfl
                  · exact .inl (by rw [h0]; simp)
                  · refine .inr ⟨g, S + 4, rfl, fun i z hz => ?_⟩
                    have hz' : ks[S + 4 + i]? = some z := by
                      rw [List.getElem?_take] at hz
                      split at hz
                      · simpa using hz
                      · cases hz
                    obtain ⟨b', o', he', cS⟩ := (hki10.below hbr (Nat.le_refl _)).at hz'
                    simp only [Option.some.injEq, Addr.mk.injEq, and_true] at he'
                    obtain ⟨rfl, rfl⟩ := he'
                    rw [Nat.zero_add] at cS
                    exact cS
                have hS11 := same11 na aw (E - S - 4) nc' cw _ wr hlw (by omega) hin hiw
                rw [hlw]
                clear hin hiw hown e1 hwl hlw
                go_wp2_with (go_at_call 11; refine hS11.mono ?_; rintro e w' ⟨rfl, m2, hw'⟩; rw [hw']; clear hw' w')
                go_ret
                exact ⟨rfl, below_drewN (hb10.trans (hbr.mono hb10.size)) _⟩
      · have hd3 : decide ((n : Int) ≤ ((k : Nat) : Int)) = true := by simp; omega
        go_wp2
        go_ret
        exact ⟨rfl, Below.refl _ _⟩

set_option maxRecDepth 100000 in
set_option maxHeartbeats 1000000 in
theorem walk3big (a0 a1 : Option Addr) (kl kc n nc : Nat) (a2 : Int) (w : World) (h1 : kl ≤ maxLen) (h2 : n ≤ maxLen) (h : ¬ (kl ≤ 1048576 ∧ n ≤ 131072 ∧ kl + 8 * n ≤ 1048576)) :
    Calls Try.prog 3 #[.slice a0 kl kc, .slice a1 n nc, .int .i64 a2] w fun e w' => e = .returned (.bool true) ∧ Below w.heap.size w w' := by
  have hnot : ∀ (x : Bool) (w : World), (Op.unary .not (.bool x)).run Try.prog w = .ok (.bool (!x)) w := fun _ _ => rfl
  by_cases hb : kl + n ≤ 1048576
  · have hC := zzb7 a0 a1 kl kc n nc a2 w hb
    by_cases hn : 131072 < n
    · have hd : decide ((131072 : Int) < (n : Int)) = true := by simp; omega
      have hd0 : decide ((1048576 : Int) < (kl : Int)) = false := by simp; omega
      clear h
      go_enter Try.func3, Try.ntmps3
      go_wp2_with (go_at_call 7; refine hC.mono ?_; rintro e w' ⟨rfl, hw'⟩; rw [hw']; clear hw' w')
      go_ret
      exact ⟨rfl, Below.refl _ _⟩
    · have hd : decide ((131072 : Int) < (n : Int)) = false := by simp; omega
      have hd0 : decide ((1048576 : Int) < (kl : Int)) = false := by simp; omega
      have hd1 : (1048576 : Int) < (kl : Int) + 8 * (n : Int) := by omega
      clear h
      go_enter Try.func3, Try.ntmps3
      go_wp2_with (go_at_call 7; refine hC.mono ?_; rintro e w' ⟨rfl, hw'⟩; rw [hw']; clear hw' w')
      go_ret
      exact ⟨rfl, Below.refl _ _⟩
  · have hC := zzb7no a0 a1 kl kc n nc a2 w hb h1 h2
    clear h
    go_enter Try.func3, Try.ntmps3
    go_wp2_with (go_at_call 7; refine hC.mono ?_; rintro e w' ⟨rfl, hw'⟩; rw [hw']; clear hw' w')
    go_ret
    exact ⟨rfl, Below.refl _ _⟩

theorem walk3all (a0 : Option Addr) (kl kc : Nat) (z0 : List Int) (a1 : Option Addr) (n nc : Nat) (z1 : List Int) (a2 : Int) (w : World) (w0 : IsRow .u8 w a0 kl kc z0) (w1 : IsRow .i64 w a1 n nc z1) :
    Calls Try.prog 3 #[.slice a0 kl kc, .slice a1 n nc, .int .i64 a2] w fun e w' => e = .returned (.bool true) ∧ Below w.heap.size w w' := by
  by_cases h : kl ≤ 1048576 ∧ n ≤ 131072 ∧ kl + 8 * n ≤ 1048576
  · exact walk3 a0 kl kc z0 a1 n nc z1 a2 w w0 w1 h.1 h.2.1 h.2.2
  · exact walk3big a0 a1 kl kc n nc a2 w w0.le w1.le h
end Go.Proofs.Qxb6612358a
