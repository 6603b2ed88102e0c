/- The law FnTaskKeysNamesTileKeys, walked. -/
import Derived.Test.Qxb6612358aCom
namespace Go.Proofs.Qxb6612358a
open Go.RowKit
set_option linter.unusedVariables false

set_option maxHeartbeats 1000000 in
theorem zzb12 (a b : Option Addr) (kl kc n c : Nat) (w : World) (h : kl + n ≤ 1048576) :
    Calls Try.prog 12 #[.slice a kl kc, .slice b n c] w fun e w' => e = .returned (.bool true) ∧ w' = w := by
  go_enter Try.func12, Try.ntmps12
  go_wp2
  go_ret
  exact ⟨rfl, rfl⟩
set_option maxHeartbeats 1000000 in
theorem zzb12no (a b : Option Addr) (kl kc n c : Nat) (w : World) (h : ¬ kl + n ≤ 1048576) (h1 : kl ≤ maxLen) (h2 : n ≤ maxLen) :
    Calls Try.prog 12 #[.slice a kl kc, .slice b n c] w fun e w' => e = .returned (.bool false) ∧ w' = w := by
  unfold maxLen at h1 h2
  by_cases k1 : kl ≤ 1048576
  · by_cases k2 : n ≤ 1048576
    · go_enter Try.func12, Try.ntmps12
      go_wp2
      go_ret
      exact ⟨rfl, rfl⟩
    · go_enter Try.func12, Try.ntmps12
      go_wp2
      go_ret
      exact ⟨rfl, rfl⟩
  · go_enter Try.func12, Try.ntmps12
    go_wp2
    go_ret
    exact ⟨rfl, rfl⟩

set_option maxRecDepth 100000 in
set_option maxHeartbeats 2000000 in
theorem walk4 (a0 : Option Addr) (kl kc : Nat) (z0 : List Int) (a1 : Option Addr) (n nc : Nat) (z1 : List Int) (w : World) (w0 : IsRow .u8 w a0 kl kc z0) (w1 : IsRow .i64 w a1 n nc z1)
    (hkl : kl ≤ 1048576) (hn : n ≤ 131072) (hsum : kl + 8 * n ≤ 1048576) :
    Calls Try.prog 4 #[.slice a0 kl kc, .slice a1 n nc] w fun e w' => e = .returned (.bool true) ∧ Below w.heap.size w w' := by
  have hnot : ∀ (x : Bool) (w : World), (Op.unary .not (.bool x)).run Try.prog w = .ok (.bool (!x)) w := fun _ _ => rfl
  have hnil := fun (a : Option Addr) (l c : Nat) (w : World) => run_neq_slice_nil_any (P := Try.prog) w 22 5 a l c 0 0 Try.underlying22
  have hnil2 := fun (a : Option Addr) (l c : Nat) (w : World) => run_neq_slice_nil_any (P := Try.prog) w 23 3 a l c 0 0 Try.underlying23
  have hV := valid8 a0 a1 kl kc n nc (z1.take n) w w1.len (by omega) hkl w1.ints w1.wf
  go_enter Try.func4, Try.ntmps4
  go_wp2_with (go_at_call 12; refine (zzb12 _ _ _ _ _ _ _ (by omega)).mono ?_; rintro e w' ⟨rfl, hw'⟩; rw [hw']; clear hw' w')
  refine hV.mono ?_
  rintro e w' ⟨hw', h⟩
  rw [hw']
  clear hw' w' hV
  rcases h with rfl | ⟨rfl, ns, hns, hv⟩
  · go_wp2
    go_ret
    exact ⟨rfl, Below.refl _ _⟩
  · go_upto_if 37 with fail
    go_cut [0, 5] from 13 to 44 (fun s _ wq => Copied w .u8 kl (z0.take kl) s wq)
    case first =>
      have hwf := w0.wf
      have hlen := w0.len
      rcases w0 with ⟨rfl, rfl, rfl, rfl⟩ | ⟨x, rfl, hl, hm, hzl, hcell, -⟩
      · go_wp2
        go_meet
        case rel => exact ⟨none, rfl, by simp, by simp, .inl (by simp), .inl (by simp), Below.refl _ _⟩
      · obtain ⟨ie, hi, hz0, hz1, hz2⟩ := info_parts info5
        go_wp2_with (at_make; refine wpList_make_full _ rfl _ _ 22 rfl w.heap.size 5 ie (.int .u8 0) 1 Try.underlying22 hi hz0 hz1 _ _ _ _ kl rfl rfl rfl rfl (by rw [hz2]; omega) (by unfold maxLen; omega) (by simp) ?_)
        intro wx o1 g1
        have hb1 := (Below.refl w.heap.size w).grown g1 (by simp) (by simp)
        obtain ⟨-, ⟨h0, -⟩ | ⟨g', cap', cur, hv', -, hbx, -, -, hcs, -, -⟩⟩ := owns_split o1
        · simp at h0
        simp only [Value.slice.injEq, Option.some.injEq, Addr.mk.injEq, and_true, true_and] at hv'
        obtain ⟨rfl, rfl⟩ := hv'
        obtain ⟨wy, hcp, hb2, hbel'⟩ := copy_all (P := Try.prog) (dT := 22) (sT := 22) (e := 5) (g := w.heap.size) (n := kl) (cap := kc) (x := x) (cs := (z0.take kl).map (Value.int .u8)) Try.underlying22 (by kernel_rfl) hbx hcs (by simp; omega) (src_cells (by omega) hcell hb1) (ints_oneCell _ _)
        have hb3 := hbel' _ _ hb1 (Nat.le_refl _)
        have HWF : Hid _ := And.intro hwf hlen
        clear hbel' hcell hbx hb1 o1 g1 hcs hwf hlen
        go_wp2
        go_meet
        case rel => exact ⟨_, rfl, HWF.out.2, HWF.out.1, Ints.ofList hb2, .inr ⟨_, rfl, Nat.le_refl _⟩, hb3⟩
    case rest =>
      clear w0
      obtain ⟨ka, rfl, hkll, hkwf, hki, hkg, hbel⟩ := hcut
      have HNS : Hid (z1.take n = ns.map (fun x : Nat => (x : Int))) := hns
      clear hns
      replace w1 := w1.below hbel (Nat.le_refl _)
      go_upto_if 46 with fail
      go_cut [1, 6] from 45 to 53 (fun s _ wq => Copied wc .i64 n (z1.take n) s wq)
      case first =>
        have hwf := w1.wf
        have hlen := w1.len
        rcases w1 with ⟨rfl, rfl, rfl, rfl⟩ | ⟨x, rfl, hl, hm, hzl, hcell, -⟩
        · go_wp2
          go_meet
          case rel => exact ⟨none, rfl, by simp, by simp, .inl (by simp), .inl (by simp), Below.refl _ _⟩
        · obtain ⟨ie, hi, hz0, hz1, hz2⟩ := info_parts info3
          go_wp2_with (at_make; refine wpList_make_full _ rfl _ _ 23 rfl wc.heap.size 3 ie (.int .i64 0) 1 Try.underlying23 hi hz0 hz1 _ _ _ _ n rfl rfl rfl rfl (by rw [hz2]; omega) (by unfold maxLen; omega) (by simp) ?_)
          intro wx o1 g1
          have hb1 := (Below.refl wc.heap.size wc).grown g1 (by simp) (by simp)
          obtain ⟨-, ⟨h0, -⟩ | ⟨g', cap', cur, hv', -, hbx, -, -, hcs, -, -⟩⟩ := owns_split o1
          · simp at h0
          simp only [Value.slice.injEq, Option.some.injEq, Addr.mk.injEq, and_true, true_and] at hv'
          obtain ⟨rfl, rfl⟩ := hv'
          obtain ⟨wy, hcp, hb2, hbel'⟩ := copy_all (P := Try.prog) (dT := 23) (sT := 23) (e := 3) (g := wc.heap.size) (n := n) (cap := nc) (x := x) (cs := (z1.take n).map (Value.int .i64)) Try.underlying23 (by kernel_rfl) hbx hcs (by simp; omega) (src_cells (by omega) hcell hb1) (ints_oneCell _ _)
          have hb3 := hbel' _ _ hb1 (Nat.le_refl _)
          have HWF : Hid _ := And.intro hwf hlen
          clear hbel' hcell hbx hb1 o1 g1 hcs hwf hlen
          go_wp2
          go_meet
          case rel => exact ⟨_, rfl, HWF.out.2, HWF.out.1, Ints.ofList hb2, .inr ⟨_, rfl, Nat.le_refl _⟩, hb3⟩
      case rest =>
        obtain ⟨ea, rfl, hel, hewf, hei, heg, hbel2⟩ := hcut
        rw [HNS.out] at hei hel heg
        have hnl : ns.length = n := by simpa using hel
        have HNL : Hid (ns.length = n) := hnl
        have HKL : Hid ((z0.take kl).length = kl) := hkll
        have hbel3 : Below w.heap.size w wc := hbel.trans (hbel2.mono hbel.size)
        have hki2 := hki.below hbel2 (Nat.le_refl _)
        clear hki hnl hkll hel hewf hkwf hbel hbel2 HNS w1
        go_wp2_with fail
        refine (new9 _ _ _ _ _ _ _).mono ?_
        rintro e w' ⟨rfl, hw'⟩
        have hb9 : Below wc.heap.size wc (wc.alloc (.cells (tkC (.slice ka kl kl) (.slice ea n n)) 44)) := (Below.refl _ _).alloc (Nat.le_refl _) _
        have hx9 := Box.new wc (tkC (.slice ka kl kl) (.slice ea n n)) 44
        rw [hw']
        clear hw' w'
        have hki9 := hki2.below hb9 (Nat.le_refl _)
        have hei9 := hei.below hb9 (Nat.le_refl _)
        have hbw : Below w.heap.size w (wc.alloc (.cells (tkC (.slice ka kl kl) (.slice ea n n)) 44)) := hbel3.trans (hb9.mono hbel3.size)
        have c1 := hx9.cell (i := 1) (v := .slice ka kl kl) rfl
        have c2 := hx9.cell (i := 2) (v := .slice ea n n) rfl
        generalize wc.alloc (.cells (tkC (.slice ka kl kl) (.slice ea n n)) 44) = w9 at *
        generalize wc.heap.size = t at *
        clear hki2 hei hb9 hx9 hbel3
        go_wp2
        go_loopw [8, 9] (fun tt jj wr => ∃ j : Nat, j ≤ n ∧ jj = .int .i64 j ∧ tt = .int .i64 (pre ns j : Int) ∧ ∃ m, wr = w9.drewN m) (fun _ jj _ => n - (intOf jj).toNat)
        case atStart => exact ⟨0, Nat.zero_le _, rfl, rfl, 0, rfl⟩
        case round =>
          obtain ⟨j, hj, rfl, rfl, m, hwr⟩ := hrel
          subst hwr
          by_cases hlt : j < n
          · have hjn : j < ns.length := by rw [HNL.out]; exact hlt
            have hEk := hv.le j hjn
            have hgap := hv.gap j hjn
            have hpre : pre ns (j + 1) = ns.getD j 0 := by simp [pre]
            have hcE : (ns.map (fun x : Nat => (x : Int)))[j]? = some ((ns.getD j 0 : Nat) : Int) := by simp [hjn, List.getD]
            have hcS : (j = 0 ∧ pre ns j = 0) ∨ (0 < j ∧ (ns.map (fun x : Nat => (x : Int)))[j - 1]? = some ((pre ns j : Nat) : Int)) := by
              by_cases h0 : j = 0
              · exact .inl ⟨h0, by simp [pre, h0]⟩
              · refine .inr ⟨by omega, ?_⟩
                have : j - 1 < ns.length := by omega
                simp [pre, h0, this, List.getD]
            generalize ns.getD j 0 = E at *
            generalize pre ns j = S at *
            have HPRE : Hid _ := hpre
            clear hpre
            have hne : ¬ ns.map (fun x : Nat => (x : Int)) = [] := by intro h; rw [h] at hcE; simp at hcE
            obtain ⟨eh, rfl, -⟩ := heg.resolve_left hne
            obtain ⟨eb, eo, he, cE⟩ := hei9.at hcE
            simp only [Option.some.injEq, Addr.mk.injEq, and_true] at he
            obtain ⟨rfl, rfl⟩ := he
            rw [Nat.zero_add] at cE
            have hcS' : (j = 0 ∧ S = 0) ∨ (0 < j ∧ w9.cell? ⟨eh, j - 1, none⟩ = some (.int .i64 S)) := by
              rcases hcS with h | ⟨h, h'⟩
              · exact .inl h
              · obtain ⟨b', o', he', cS⟩ := hei9.at h'
                simp only [Option.some.injEq, Addr.mk.injEq, and_true] at he'
                obtain ⟨rfl, rfl⟩ := he'
                rw [Nat.zero_add] at cS
                exact .inr ⟨h, cS⟩
            have hkne : ¬ z0.take kl = [] := by intro h; have := HKL.out; rw [h] at this; simp at this; omega
            obtain ⟨g, rfl, -⟩ := hkg.resolve_left hkne
            have hN := name10 t g eh kl n j S E (w9.drewN m) hgap hEk hkl hlt (by omega) c1 c2 cE hcS'
            obtain ⟨L, rfl⟩ : ∃ L, E = S + 4 + L := ⟨E - S - 4, by omega⟩
            have eL : S + 4 + L - S - 4 = L := by omega
            unfold NameAt at hN
            rw [eL] at hN
            have HCE : Hid _ := hcE
            have hd : decide (kl < L) = false := by simp; omega
            clear hcS hcS' hkne hne eL hcE
            go_wp2_with (go_at_call 10; refine hN.mono ?_; rintro e w' ⟨⟨na, nc', rfl, hna⟩, m', hw'⟩; rw [hw']; clear hw' w')
            clear hN c1 c2
            go_loopw [12] (fun ii wq => ∃ q : Nat, q ≤ L ∧ ii = .int .i64 q ∧ ∃ m, wq = w9.drewN m) (fun ii _ => L - (intOf ii).toNat)
            case atStart => exact ⟨0, Nat.zero_le _, rfl, _, rfl⟩
            case round =>
              obtain ⟨q, hq, rfl, mq, hwq⟩ := hrel
              subst hwq
              by_cases hql : q < L
              · obtain rfl := hna.resolve_left (by omega)
                have hkq : S + 4 + q < (z0.take kl).length := by rw [HKL.out]; omega
                obtain ⟨kb, ko, hk', cK⟩ := hki9.at (i := S + 4 + q) (z := (z0.take kl)[S + 4 + q]) (List.getElem?_eq_getElem hkq)
                simp only [Option.some.injEq, Addr.mk.injEq, and_true] at hk'
                obtain ⟨rfl, rfl⟩ := hk'
                rw [Nat.zero_add] at cK
                generalize (z0.take kl)[S + 4 + q] = z at cK
                clear hkq
                go_wp2
                go_quiet (fail)
                go_wp2
                refine ⟨⟨q + 1, by omega, by go_num, _, rfl⟩, ?_⟩
                simp [intOf]; omega
              · go_wp2
                refine ⟨⟨j + 1, by omega, by go_num, ?_, _, rfl⟩, ?_⟩
                · rw [HPRE.out]; go_num
                · simp [intOf]; omega
          · have hjn : j = ns.length := by rw [HNL.out]; omega
            have hl := hv.last
            rw [← hjn] at hl
            have hq : ((pre ns j : Int) == (kl : Int)) = true := by simp [hl]
            clear hl hjn
            go_wp2
            go_ret
            exact ⟨rfl, below_drewN hbw _⟩

set_option maxRecDepth 100000 in
set_option maxHeartbeats 1000000 in
theorem walk4big (a0 a1 : Option Addr) (kl kc n nc : Nat) (w : World) (h1 : kl ≤ maxLen) (h2 : n ≤ maxLen) (h : ¬ (kl ≤ 1048576 ∧ n ≤ 131072 ∧ kl + 8 * n ≤ 1048576)) :
    Calls Try.prog 4 #[.slice a0 kl kc, .slice a1 n nc] w fun e w' => e = .returned (.bool true) ∧ Below w.heap.size w w' := by
  have hnot : ∀ (x : Bool) (w : World), (Op.unary .not (.bool x)).run Try.prog w = .ok (.bool (!x)) w := fun _ _ => rfl
  by_cases hb : kl + n ≤ 1048576
  · have hC := zzb12 a0 a1 kl kc n nc w hb
    by_cases hn : 131072 < n
    · have hd : decide ((131072 : Int) < (n : Int)) = true := by simp; omega
      have hd0 : decide ((1048576 : Int) < (kl : Int)) = false := by simp; omega
      clear h
      go_enter Try.func4, Try.ntmps4
      go_wp2_with (go_at_call 12; refine hC.mono ?_; rintro e w' ⟨rfl, hw'⟩; rw [hw']; clear hw' w')
      go_ret
      exact ⟨rfl, Below.refl _ _⟩
    · have hd : decide ((131072 : Int) < (n : Int)) = false := by simp; omega
      have hd0 : decide ((1048576 : Int) < (kl : Int)) = false := by simp; omega
      have hd1 : (1048576 : Int) < (kl : Int) + 8 * (n : Int) := by omega
      clear h
      go_enter Try.func4, Try.ntmps4
      go_wp2_with (go_at_call 12; refine hC.mono ?_; rintro e w' ⟨rfl, hw'⟩; rw [hw']; clear hw' w')
      go_ret
      exact ⟨rfl, Below.refl _ _⟩
  · have hC := zzb12no a0 a1 kl kc n nc w hb h1 h2
    clear h
    go_enter Try.func4, Try.ntmps4
    go_wp2_with (go_at_call 12; refine hC.mono ?_; rintro e w' ⟨rfl, hw'⟩; rw [hw']; clear hw' w')
    go_ret
    exact ⟨rfl, Below.refl _ _⟩

theorem walk4all (a0 : Option Addr) (kl kc : Nat) (z0 : List Int) (a1 : Option Addr) (n nc : Nat) (z1 : List Int) (w : World) (w0 : IsRow .u8 w a0 kl kc z0) (w1 : IsRow .i64 w a1 n nc z1) :
    Calls Try.prog 4 #[.slice a0 kl kc, .slice a1 n nc] w fun e w' => e = .returned (.bool true) ∧ Below w.heap.size w w' := by
  by_cases h : kl ≤ 1048576 ∧ n ≤ 131072 ∧ kl + 8 * n ≤ 1048576
  · exact walk4 a0 kl kc z0 a1 n nc z1 w w0 w1 h.1 h.2.1 h.2.2
  · exact walk4big a0 a1 kl kc n nc w w0.le w1.le h
end Go.Proofs.Qxb6612358a
