/- The law FnLineReaderTakeTrimsOneCR, walked. -/
import Derived.Test.Qxb6612358aTrim
namespace Go.Proofs.Qxb6612358a
open Go.RowKit
set_option linter.unusedVariables false

set_option maxHeartbeats 1000000 in
theorem zzb13 (a : Option Addr) (n c : Nat) (x1 x2 x3 x4 x5 : Int) (w : World) (h : n ≤ 1048576) :
    Calls Try.prog 13 #[.slice a n c, .int .i64 x1, .int .i64 x2, .int .i64 x3, .int .i64 x4, .int .i64 x5] w fun e w' => e = .returned (.bool true) ∧ w' = w := by
  go_enter Try.func13, Try.ntmps13
  go_wp2
  go_ret
  exact ⟨rfl, rfl⟩
set_option maxHeartbeats 1000000 in
theorem zzb13no (a : Option Addr) (n c : Nat) (x1 x2 x3 x4 x5 : Int) (w : World) (h : ¬ n ≤ 1048576) (hm : n ≤ maxLen) :
    Calls Try.prog 13 #[.slice a n c, .int .i64 x1, .int .i64 x2, .int .i64 x3, .int .i64 x4, .int .i64 x5] w fun e w' => e = .returned (.bool false) ∧ w' = w := by
  unfold maxLen at hm
  go_enter Try.func13, Try.ntmps13
  go_wp2
  go_ret
  exact ⟨rfl, rfl⟩

/-- what the loop gathers is a row of the call's own -/
def Gat (B : Nat) (w0 : World) (ls : List Int) (v : Value) (w : World) : Prop := Below B w0 w ∧ w.ownsRow B 5 1 v ls.length (ls.map (Value.int .u8))

set_option maxRecDepth 100000 in
set_option maxHeartbeats 2000000 in
theorem walk5 (a0 : Option Addr) (n cap0 : Nat) (z0 : List Int) (st en nd nx : Nat) (line : Int) (w : World) (w0 : IsRow .u8 w a0 n cap0 z0) (hn : n ≤ 1048576) (h1 : st ≤ nd) (h2 : nd ≤ nx) (h3 : nx ≤ en) (h4 : en ≤ n) :
    Calls Try.prog 5 #[.slice a0 n cap0, .int .i64 st, .int .i64 en, .int .i64 line, .int .i64 nd, .int .i64 nx] w fun e w' => e = .returned (.bool true) ∧ Below w.heap.size w w' := by
  have hnot : ∀ (x : Bool) (w : World), (Op.unary .not (.bool x)).run Try.prog w = .ok (.bool (!x)) w := fun _ _ => rfl
  have hnil := fun (a : Option Addr) (l c : Nat) (w : World) => run_neq_slice_nil_any (P := Try.prog) w 22 5 a l c 0 0 Try.underlying22
  have g0 : decide ((st : Int) < 0) = false := by simp
  have g1 : decide ((nd : Int) < (st : Int)) = false := by simp; omega
  have g2 : decide ((nx : Int) < (nd : Int)) = false := by simp; omega
  have g3 : decide ((en : Int) < (nx : Int)) = false := by simp; omega
  have g4 : decide ((n : Int) < (en : Int)) = false := by simp; omega
  go_enter Try.func5, Try.ntmps5
  go_upto_if 54 with (go_at_call 13; refine (zzb13 _ _ _ _ _ _ _ _ _ hn).mono ?_; rintro e w' ⟨rfl, hw'⟩; rw [hw']; clear hw' w')
  clear g0 g1 g2 g3 g4
  go_cut [0, 13] from 19 to 61 (fun s _ wq => Copied w .u8 n (z0.take n) s wq)
  case first =>
    have hwf := w0.wf
    have hlen := w0.len
    rcases w0 with ⟨rfl, rfl, rfl, rfl⟩ | ⟨x, rfl, hl, hm, hzl, hcell, -⟩
    · go_wp2
      go_meet
      case rel => exact ⟨none, rfl, by simp, by simp, .inl (by simp), .inl (by simp), Below.refl _ _⟩
    · obtain ⟨ie, hi, hz0, hz1, hz2⟩ := info_parts info5
      go_wp2_with (at_make; refine wpList_make_full _ rfl _ _ 22 rfl w.heap.size 5 ie (.int .u8 0) 1 Try.underlying22 hi hz0 hz1 _ _ _ _ n rfl rfl rfl rfl (by rw [hz2]; omega) (by unfold maxLen; omega) (by simp) ?_)
      intro wx o1 g1
      have hb1 := (Below.refl w.heap.size w).grown g1 (by simp) (by simp)
      obtain ⟨-, ⟨h0, -⟩ | ⟨g', cap', cur, hv', -, hbx, -, -, hcs, -, -⟩⟩ := owns_split o1
      · simp at h0
      simp only [Value.slice.injEq, Option.some.injEq, Addr.mk.injEq, and_true, true_and] at hv'
      obtain ⟨rfl, rfl⟩ := hv'
      obtain ⟨wy, hcp, hb2, hbel'⟩ := copy_all (P := Try.prog) (dT := 22) (sT := 22) (e := 5) (g := w.heap.size) (n := n) (cap := cap0) (x := x) (cs := (z0.take n).map (Value.int .u8)) Try.underlying22 (by kernel_rfl) hbx hcs (by simp; omega) (src_cells (by omega) hcell hb1) (ints_oneCell _ _)
      have hb3 := hbel' _ _ hb1 (Nat.le_refl _)
      have HWF : Hid _ := And.intro hwf hlen
      clear hbel' hcell hbx hb1 o1 g1 hcs hwf hlen
      go_wp2
      go_meet
      case rel => exact ⟨_, rfl, HWF.out.2, HWF.out.1, Ints.ofList hb2, .inr ⟨_, rfl, Nat.le_refl _⟩, hb3⟩
  case rest =>
    clear w0
    obtain ⟨ba, rfl, hbl, hbwf, hbi, hbg, hbel⟩ := hcut
    generalize z0.take n = bs at *
    have HL : Hid (bs.length = n) := hbl
    clear hbl hbwf
    go_wp2_with fail
    refine (new14 _ _ _ _ _ _ _).mono ?_
    rintro e w' ⟨rfl, hw'⟩
    have hb9 : Below wc.heap.size wc (wc.alloc (.cells (lrC (.slice ba n n) st en (.slice none 0 0) line 0) 51)) := (Below.refl _ _).alloc (Nat.le_refl _) _
    have hx9 := Box.new wc (lrC (.slice ba n n) st en (.slice none 0 0) line 0) 51
    rw [hw']
    clear hw' w'
    have hbi9 := hbi.below hb9 (Nat.le_refl _)
    have hbw : Below w.heap.size w (wc.alloc (.cells (lrC (.slice ba n n) st en (.slice none 0 0) line 0) 51)) := hbel.trans (hb9.mono hbel.size)
    have hg9 : bs = [] ∨ ∃ g, ba = some ⟨g, 0, none⟩ ∧ g ≠ wc.heap.size := by
      by_cases h0 : bs = []
      · exact .inl h0
      · obtain ⟨g, rfl, -⟩ := hbg.resolve_left h0
        refine .inr ⟨g, rfl, ?_⟩
        have hne : 0 < bs.length := List.length_pos_iff.2 h0
        obtain ⟨b', o', he, hc⟩ := hbi.at (i := 0) (z := bs[0]) (List.getElem?_eq_getElem hne)
        simp only [Option.some.injEq, Addr.mk.injEq, and_true] at he
        obtain ⟨rfl, rfl⟩ := he
        have := cell_lt hc
        simp at this
        omega
    have htw : w.heap.size ≤ wc.heap.size := hbel.size
    generalize wc.alloc (.cells (lrC (.slice ba n n) st en (.slice none 0 0) line 0) 51) = w9 at *
    generalize wc.heap.size = t at *
    clear hbi hb9 hbel
    have hT := take15 t n st nd ba nx en line 0 _ bs w9 hx9 hn HL.out hg9 hbi9 h1 (by omega)
    go_wp2_with fail
    refine hT.mono ?_
    rintro e w2 ⟨rfl, al, cl, xl, kl, il⟩
    have hbi2 : Ints w2 ba .u8 bs := by
      rcases hg9 with h0 | ⟨g, rfl, hgt⟩
      · exact .inl h0
      · rcases hbi9 with h0 | ⟨b', o', he, hc⟩
        · exact .inl h0
        · simp only [Option.some.injEq, Addr.mk.injEq, and_true] at he
          obtain ⟨rfl, rfl⟩ := he
          refine .inr ⟨g, 0, rfl, fun i z hz => ?_⟩
          have := hc i z hz
          rw [World.cell?_of_block (kl.block g (cell_lt this) hgt)]
          exact this
    have hbw2 : Below w.heap.size w w2 := kl.below hbw hbw.size (fun k hk h => by omega)
    clear hT hx9 kl hbi9 hbw htw hbg hg9
    obtain ⟨ie, hi, hz0, hz1, hz2⟩ := info_parts info5
    go_wp2
    go_loopw [15, 16, 17] (fun v pd pp wr => ∃ p : Nat, st ≤ p ∧ p ≤ nd ∧ pp = .int .i64 p ∧ pd = .bool (pend bs st p) ∧ Gat w2.heap.size w2 (lineL bs st p) v wr) (fun _ _ pp _ => nd - (intOf pp).toNat)
    case atStart => exact ⟨st, Nat.le_refl _, h1, rfl, by rw [pend_start], Below.refl _ _, by rw [line_start]; exact World.ownsRow_nil w2 _ 5 1⟩
    case round =>
      obtain ⟨p, hp0, hp1, rfl, rfl, hbr, hown⟩ := hrel
      have hll := line_le bs st p
      by_cases hlt : p < nd
      · have hpn : p < bs.length := by rw [HL.out]; omega
        have hrow := hbi2.below hbr (Nat.le_refl _)
        obtain ⟨gb, go, rfl, cK⟩ := hrow.at (List.getElem?_eq_getElem hpn)
        go_upto_if 81 with fail
        go_cut [15, 16] from 72 to 90 (fun v pd wq => pd = .bool false ∧ Gat w2.heap.size w2 ((bs.take p).drop st) v wq)
        case first =>
          cases hpe : pend bs st p
          · have HE : Hid _ := pend_no hpe
            go_wp2
            go_meet
            case rel => exact ⟨rfl, hbr, by rw [← HE.out]; exact hown⟩
          · have HE : Hid _ := pend_yes (Nat.le_of_lt hpn) hpe
            have hlr := hbr.size
            go_wp2_with (at_builtin; refine wpList_app1 _ rfl _ _ 22 rfl w2.heap.size 5 ie (.int .u8 0) 1 Try.underlying22 hi hz0 hz1 hz2 rfl _ _ _ rfl (hown.alloc _) ⟨wr.heap.size, 0, none⟩ (.int .u8 13) rfl (cell_one_new _ _ _) rfl (by unfold maxLen; omega) (by omega) (by simp; omega) ?_)
            intro g3 cap3 w3 q3 g3'
            have hb3 : Below w2.heap.size w2 w3 := (hbr.alloc hlr _).grown g3' (by simp; omega) (owns_ge hown)
            clear g3' hown
            go_wp2
            go_meet
            case rel => exact ⟨rfl, hb3, by rw [← HE.out]; simpa using q3⟩
        case rest =>
          clear hown hbr cK
          obtain ⟨rfl, hbq, hown⟩ := hcut
          have cK : wc.cell? ⟨gb, go + p, none⟩ = some (.int .u8 bs[p]) := by
            obtain ⟨b', o', he, hc⟩ := (hbi2.below hbq (Nat.le_refl _)).at (List.getElem?_eq_getElem hpn)
            simp only [Option.some.injEq, Addr.mk.injEq, and_true] at he
            obtain ⟨rfl, rfl⟩ := he
            exact hc
          have hll' : ((bs.take p).drop st).length ≤ 1048576 := by simp; omega
          by_cases hc : bs[p] = 13
          · have HE : Hid _ := line_cr hp0 hpn hc
            have hc' : (bs[p] == 13) = true := by simp [hc]
            generalize bs[p] = z at *
            clear hc
            go_wp2
            obtain ⟨e1, e2⟩ := HE.out
            refine ⟨⟨p + 1, by omega, by omega, by go_num, by rw [e2], hbq, by rw [e1]; exact hown⟩, ?_⟩
            simp [intOf]; omega
          · have HE : Hid _ := line_other hp0 hpn hc
            have hc' : (bs[p] == 13) = false := by simpa using hc
            have hlr := hbq.size
            generalize bs[p] = z at *
            clear hc
            go_wp2_with (at_builtin; refine wpList_app1 _ rfl _ _ 22 rfl w2.heap.size 5 ie (.int .u8 0) 1 Try.underlying22 hi hz0 hz1 hz2 rfl _ _ _ rfl (hown.alloc _) ⟨wc.heap.size, 0, none⟩ (.int .u8 z) rfl (cell_one_new _ _ _) rfl (by unfold maxLen; omega) (by omega) (by simp; omega) ?_)
            intro g3 cap3 w3 q3 g3'
            have hb3 : Below w2.heap.size w2 w3 := (hbq.alloc hlr _).grown g3' (by simp; omega) (owns_ge hown)
            clear g3' hown
            go_wp2
            obtain ⟨e1, e2⟩ := HE.out
            refine ⟨⟨p + 1, by omega, by omega, by go_num, by rw [e2], hb3, ?_⟩, ?_⟩
            · rw [e1]; simpa using q3
            · simp [intOf]; omega
      · have hpe : p = nd := by omega
        rw [hpe] at hown
        obtain ⟨aw, cw, rfl, hiw⟩ := Ints.ofOwns hown
        have hll' := line_le bs st nd
        have xr := xl.below hbr xl.lt
        have ir := il.below hbr (Nat.le_refl _)
        have hS := same11 al aw (lineL bs st nd).length cl cw _ wr rfl (by omega) ir hiw
        have hbf : Below w.heap.size w wr := hbw2.trans (hbr.mono hbw2.size)
        have hL := last16 t _ _ _ _ _ _ wr xr
        have hB := fun m => begun17 t _ _ _ _ _ _ (wr.drewN m) (show Box (wr.drewN m) t 51 _ from xr)
        have hSt := fun m => start18 t _ _ _ _ _ _ (wr.drewN m) (show Box (wr.drewN m) t 51 _ from xr)
        have hLi := fun m => line19 t _ _ _ _ _ _ (wr.drewN m) (show Box (wr.drewN m) t 51 _ from xr)
        clear hown hiw ir il xl hbi2 xr hll
        go_wp2_with (first | (go_at_call 16; refine hL.mono ?_; rintro e w' ⟨rfl, hw'⟩; rw [hw']; clear hw' w') | (go_at_call 11; refine hS.mono ?_; rintro e w' ⟨rfl, mm, hw'⟩; rw [hw']; clear hw' w') | (go_at_call 17; refine (hB _).mono ?_; rintro e w' ⟨rfl, hw'⟩; rw [hw']; clear hw' w') | (go_at_call 18; refine (hSt _).mono ?_; rintro e w' ⟨rfl, hw'⟩; rw [hw']; clear hw' w') | (go_at_call 19; refine (hLi _).mono ?_; rintro e w' ⟨rfl, hw'⟩; rw [hw']; clear hw' w'))
        go_ret
        exact ⟨rfl, below_drewN hbf _⟩

set_option maxRecDepth 100000 in
set_option maxHeartbeats 1000000 in
theorem walk5big (a0 : Option Addr) (n cap0 : Nat) (a1 a2 a3 a4 a5 : Int) (w : World) (hm : n ≤ maxLen) (hn : ¬ n ≤ 1048576) :
    Calls Try.prog 5 #[.slice a0 n cap0, .int .i64 a1, .int .i64 a2, .int .i64 a3, .int .i64 a4, .int .i64 a5] w fun e w' => e = .returned (.bool true) ∧ Below w.heap.size w w' := by
  have hnot : ∀ (x : Bool) (w : World), (Op.unary .not (.bool x)).run Try.prog w = .ok (.bool (!x)) w := fun _ _ => rfl
  go_enter Try.func5, Try.ntmps5
  go_wp2_with (go_at_call 13; refine (zzb13no _ _ _ _ _ _ _ _ _ hn hm).mono ?_; rintro e w' ⟨rfl, hw'⟩; rw [hw']; clear hw' w')
  go_ret
  exact ⟨rfl, Below.refl _ _⟩

/-- the first of the five tests that holds -/
def Bad (n : Nat) (a1 a2 a4 a5 : Int) : Prop :=
  decide (a1 < 0) = true ∨ (decide (a1 < 0) = false ∧ decide (a4 < a1) = true) ∨ (decide (a1 < 0) = false ∧ decide (a4 < a1) = false ∧ decide (a5 < a4) = true) ∨
    (decide (a1 < 0) = false ∧ decide (a4 < a1) = false ∧ decide (a5 < a4) = false ∧ decide (a2 < a5) = true) ∨
    (decide (a1 < 0) = false ∧ decide (a4 < a1) = false ∧ decide (a5 < a4) = false ∧ decide (a2 < a5) = false ∧ decide ((n : Int) < a2) = true)

set_option maxRecDepth 100000 in
set_option maxHeartbeats 2000000 in
theorem walk5bad (a0 : Option Addr) (n cap0 : Nat) (a1 a2 a3 a4 a5 : Int) (w : World) (hn : n ≤ 1048576) (hb : Bad n a1 a2 a4 a5) :
    Calls Try.prog 5 #[.slice a0 n cap0, .int .i64 a1, .int .i64 a2, .int .i64 a3, .int .i64 a4, .int .i64 a5] w fun e w' => e = .returned (.bool true) ∧ Below w.heap.size w w' := by
  have hnot : ∀ (x : Bool) (w : World), (Op.unary .not (.bool x)).run Try.prog w = .ok (.bool (!x)) w := fun _ _ => rfl
  rcases hb with h1 | ⟨h1, h2⟩ | ⟨h1, h2, h3⟩ | ⟨h1, h2, h3, h4⟩ | ⟨h1, h2, h3, h4, h5⟩
  all_goals
    go_enter Try.func5, Try.ntmps5
    go_wp2_with (go_at_call 13; refine (zzb13 _ _ _ _ _ _ _ _ _ hn).mono ?_; rintro e w' ⟨rfl, hw'⟩; rw [hw']; clear hw' w')
    go_ret
    exact ⟨rfl, Below.refl _ _⟩

theorem walk5all (a0 : Option Addr) (n cap0 : Nat) (z0 : List Int) (a1 a2 a3 a4 a5 : Int) (w : World) (w0 : IsRow .u8 w a0 n cap0 z0) :
    Calls Try.prog 5 #[.slice a0 n cap0, .int .i64 a1, .int .i64 a2, .int .i64 a3, .int .i64 a4, .int .i64 a5] w fun e w' => e = .returned (.bool true) ∧ Below w.heap.size w w' := by
  by_cases hn : n ≤ 1048576
  · by_cases h1 : a1 < 0
    · exact walk5bad a0 n cap0 a1 a2 a3 a4 a5 w hn (.inl (by simpa using h1))
    · by_cases h2 : a4 < a1
      · exact walk5bad a0 n cap0 a1 a2 a3 a4 a5 w hn (.inr (.inl ⟨decide_eq_false h1, decide_eq_true h2⟩))
      · by_cases h3 : a5 < a4
        · exact walk5bad a0 n cap0 a1 a2 a3 a4 a5 w hn (.inr (.inr (.inl ⟨decide_eq_false h1, decide_eq_false h2, decide_eq_true h3⟩)))
        · by_cases h4 : a2 < a5
          · exact walk5bad a0 n cap0 a1 a2 a3 a4 a5 w hn (.inr (.inr (.inr (.inl ⟨decide_eq_false h1, decide_eq_false h2, decide_eq_false h3, decide_eq_true h4⟩))))
          · by_cases h5 : (n : Int) < a2
            · exact walk5bad a0 n cap0 a1 a2 a3 a4 a5 w hn (.inr (.inr (.inr (.inr ⟨decide_eq_false h1, decide_eq_false h2, decide_eq_false h3, decide_eq_false h4, decide_eq_true h5⟩))))
            · obtain ⟨st, rfl⟩ := Int.eq_ofNat_of_zero_le (a := a1) (by omega)
              obtain ⟨nd, rfl⟩ := Int.eq_ofNat_of_zero_le (a := a4) (by omega)
              obtain ⟨nx, rfl⟩ := Int.eq_ofNat_of_zero_le (a := a5) (by omega)
              obtain ⟨en, rfl⟩ := Int.eq_ofNat_of_zero_le (a := a2) (by omega)
              exact walk5 a0 n cap0 z0 st en nd nx a3 w w0 hn (by omega) (by omega) (by omega) (by omega)
  · exact walk5big a0 n cap0 a1 a2 a3 a4 a5 w w0.le hn
end Go.Proofs.Qxb6612358a
