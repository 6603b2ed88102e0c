/- The law FnLineReaderTakeSplitsLines, walked. -/
import Derived.Test.Qxb6612358aTrim
namespace Go.Proofs.Qxb6612358a
open Go.RowKit
set_option linter.unusedVariables false

theorem Kept.grown {S : Nat → Prop} {a w w' : World} {row : Option Nat} (h : Kept S a w) (hg : w.grownBy w' row) (hr : ∀ k, row = some k → a.heap.size ≤ k) : Kept S a w' :=
  ⟨hg.os.trans h.os, hg.tape.trans h.tape, hg.output.trans h.output, Nat.le_trans h.size hg.size, fun i hi hs => (hg.block i (Nat.lt_of_lt_of_le hi h.size) (fun e => by have := hr i e.symm; omega)).trans (h.block i hi hs)⟩
theorem Kept.drewN {S : Nat → Prop} {a w : World} (h : Kept S a w) (n : Nat) : Kept S a (w.drewN n) := ⟨h.os, h.tape, h.output, h.size, h.block⟩

theorem wrap_succ (x : Int) (c : Nat) : wrap64 (wrap64 (x + (c : Int)) + 1) = wrap64 (x + ((c : Int) + 1)) := by
  unfold wrap64; omega
theorem wrap_zero (x : Int) (h : (Lit.int .i64 x).wf = true) : wrap64 (x + ((0 : Nat) : Int)) = x := by
  have := bounds_i64 h
  unfold wrap64; omega

set_option maxHeartbeats 1000000 in
theorem zzb20 (a : Option Addr) (n c : Nat) (x1 x2 : Int) (w : World) (h : n ≤ 1048576) :
    Calls Try.prog 20 #[.slice a n c, .int .i64 x1, .int .i64 x2] w fun e w' => e = .returned (.bool true) ∧ w' = w := by
  go_enter Try.func20, Try.ntmps20
  go_wp2
  go_ret
  exact ⟨rfl, rfl⟩
set_option maxHeartbeats 1000000 in
theorem zzb20no (a : Option Addr) (n c : Nat) (x1 x2 : Int) (w : World) (h : ¬ n ≤ 1048576) (hm : n ≤ maxLen) :
    Calls Try.prog 20 #[.slice a n c, .int .i64 x1, .int .i64 x2] w fun e w' => e = .returned (.bool false) ∧ w' = w := by
  unfold maxLen at hm
  go_enter Try.func20, Try.ntmps20
  go_wp2
  go_ret
  exact ⟨rfl, rfl⟩

/-- the reader and the gathered line, b: where the line begins, c lines taken, p bytes gone through -/
def Spl (w9 : World) (t n : Nat) (ba : Option Addr) (bs : List Int) (line : Int) (b c p : Nat) (v : Value) (wr : World) : Prop :=
  Kept (fun k => k = t) w9 wr ∧ (∃ last begun, Box wr t 51 (lrC (.slice ba n n) b n last (wrap64 (line + (c : Int))) begun)) ∧ wr.ownsRow w9.heap.size 5 1 v (lineL bs b p).length ((lineL bs b p).map (Value.int .u8))

theorem spl_ints {w9 wr : World} {t : Nat} {ba : Option Addr} {bs : List Int} (hg : bs = [] ∨ ∃ g, ba = some ⟨g, 0, none⟩ ∧ g ≠ t) (hi : Ints w9 ba .u8 bs) (hk : Kept (fun k => k = t) w9 wr) : Ints wr ba .u8 bs := by
  rcases hg with h0 | ⟨g, rfl, hgt⟩
  · exact .inl h0
  · rcases hi with h0 | ⟨b', o', he, hc⟩
    · exact .inl h0
    · simp only [Option.some.injEq, Addr.mk.injEq, and_true] at he
      obtain ⟨rfl, rfl⟩ := he
      refine .inr ⟨g, 0, rfl, fun i z hz => ?_⟩
      have := hc i z hz
      rw [World.cell?_of_block (hk.block g (cell_lt this) hgt)]
      exact this

theorem own_kept {w w' : World} {t : Nat} {cs : Array Value} (hx : Box w t 51 cs) (hk : Kept (fun k => k = t) w w') {base : Nat} {v : Value} {n : Nat} {xs : List Value} (h : w.ownsRow base 5 1 v n xs) : w'.ownsRow base 5 1 v n xs :=
  hk.owns h (fun g cs' _ hg e => hg.ne hx (by decide) e)

set_option maxRecDepth 100000 in
set_option maxHeartbeats 4000000 in
theorem walk6 (a0 : Option Addr) (n cap0 : Nat) (z0 : List Int) (st : Nat) (line : Int) (w : World) (w0 : IsRow .u8 w a0 n cap0 z0) (hwl : (Lit.int .i64 line).wf = true) (hn : n ≤ 1048576) (h1 : st ≤ n) :
    Calls Try.prog 6 #[.slice a0 n cap0, .int .i64 st, .int .i64 line] w fun e w' => e = .returned (.bool true) ∧ Below w.heap.size w w' := by
  have hnot : ∀ (x : Bool) (w : World), (Op.unary .not (.bool x)).run Try.prog w = .ok (.bool (!x)) w := fun _ _ => rfl
  have hnil := fun (a : Option Addr) (l c : Nat) (w : World) => run_neq_slice_nil_any (P := Try.prog) w 22 5 a l c 0 0 Try.underlying22
  have g0 : decide ((st : Int) < 0) = false := by simp
  have g1 : decide ((n : Int) < (st : Int)) = false := by simp; omega
  have HWL : Hid _ := wrap_zero line hwl
  clear hwl
  go_enter Try.func6, Try.ntmps6
  go_upto_if 32 with (go_at_call 20; refine (zzb20 _ _ _ _ _ _ hn).mono ?_; rintro e w' ⟨rfl, hw'⟩; rw [hw']; clear hw' w')
  clear g0 g1
  go_cut [0, 7] from 15 to 39 (fun s _ wq => Copied w .u8 n (z0.take n) s wq)
  case first =>
    have hwf := w0.wf
    have hlen := w0.len
    rcases w0 with ⟨rfl, rfl, rfl, rfl⟩ | ⟨x, rfl, hl, hm, hzl, hcell, -⟩
    · go_wp2
      go_meet
      case rel => exact ⟨none, rfl, by simp, by simp, .inl (by simp), .inl (by simp), Below.refl _ _⟩
    · obtain ⟨ie, hi, hz0, hz1, hz2⟩ := info_parts info5
      go_wp2_with (at_make; refine wpList_make_full _ rfl _ _ 22 rfl w.heap.size 5 ie (.int .u8 0) 1 Try.underlying22 hi hz0 hz1 _ _ _ _ n rfl rfl rfl rfl (by rw [hz2]; omega) (by unfold maxLen; omega) (by simp) ?_)
      intro wx o1 g1
      have hb1 := (Below.refl w.heap.size w).grown g1 (by simp) (by simp)
      obtain ⟨-, ⟨h0, -⟩ | ⟨g', cap', cur, hv', -, hbx, -, -, hcs, -, -⟩⟩ := owns_split o1
      · simp at h0
      simp only [Value.slice.injEq, Option.some.injEq, Addr.mk.injEq, and_true, true_and] at hv'
      obtain ⟨rfl, rfl⟩ := hv'
      obtain ⟨wy, hcp, hb2, hbel'⟩ := copy_all (P := Try.prog) (dT := 22) (sT := 22) (e := 5) (g := w.heap.size) (n := n) (cap := cap0) (x := x) (cs := (z0.take n).map (Value.int .u8)) Try.underlying22 (by kernel_rfl) hbx hcs (by simp; omega) (src_cells (by omega) hcell hb1) (ints_oneCell _ _)
      have hb3 := hbel' _ _ hb1 (Nat.le_refl _)
      have HWF : Hid _ := And.intro hwf hlen
      clear hbel' hcell hbx hb1 o1 g1 hcs hwf hlen
      go_wp2
      go_meet
      case rel => exact ⟨_, rfl, HWF.out.2, HWF.out.1, Ints.ofList hb2, .inr ⟨_, rfl, Nat.le_refl _⟩, hb3⟩
  case rest =>
    clear w0
    obtain ⟨ba, rfl, hbl, hbwf, hbi, hbg, hbel⟩ := hcut
    generalize z0.take n = bs at *
    have HL : Hid (bs.length = n) := hbl
    clear hbl hbwf
    go_wp2_with fail
    refine (new14 _ _ _ _ _ _ _).mono ?_
    rintro e w' ⟨rfl, hw'⟩
    have hb9 : Below wc.heap.size wc (wc.alloc (.cells (lrC (.slice ba n n) st n (.slice none 0 0) line 0) 51)) := (Below.refl _ _).alloc (Nat.le_refl _) _
    have hx9 := Box.new wc (lrC (.slice ba n n) st n (.slice none 0 0) line 0) 51
    rw [hw']
    clear hw' w'
    have hbi9 := hbi.below hb9 (Nat.le_refl _)
    have hbw : Below w.heap.size w (wc.alloc (.cells (lrC (.slice ba n n) st n (.slice none 0 0) line 0) 51)) := hbel.trans (hb9.mono hbel.size)
    have hg9 : bs = [] ∨ ∃ g, ba = some ⟨g, 0, none⟩ ∧ g ≠ wc.heap.size := by
      by_cases h0 : bs = []
      · exact .inl h0
      · obtain ⟨g, rfl, -⟩ := hbg.resolve_left h0
        refine .inr ⟨g, rfl, ?_⟩
        have hne : 0 < bs.length := List.length_pos_iff.2 h0
        obtain ⟨b', o', he, hc⟩ := hbi.at (i := 0) (z := bs[0]) (List.getElem?_eq_getElem hne)
        simp only [Option.some.injEq, Addr.mk.injEq, and_true] at he
        obtain ⟨rfl, rfl⟩ := he
        have := cell_lt hc
        simp at this
        omega
    have htw : w.heap.size ≤ wc.heap.size := hbel.size
    generalize wc.alloc (.cells (lrC (.slice ba n n) st n (.slice none 0 0) line 0) 51) = w9 at *
    generalize wc.heap.size = t at *
    have hbf : ∀ wr, Kept (fun k => k = t) w9 wr → Below w.heap.size w wr := fun wr hk => hk.below hbw hbw.size (fun k hk h => by omega)
    have HBF : Hid _ := hbf
    have HG9 : Hid _ := hg9
    have hlt9 := hx9.lt
    clear hbi hb9 hbel hbf hbg hg9
    have hk0 : Spl w9 t n ba bs line st 0 st (.slice none 0 0) w9 := ⟨Kept.refl _ _, ⟨_, _, by rw [HWL.out]; exact hx9⟩, by rw [line_start]; exact World.ownsRow_nil w9 _ 5 1⟩
    obtain ⟨ie, hi, hz0, hz1, hz2⟩ := info_parts info5
    go_wp2
    go_loopw [9, 10, 11, 12, 13] (fun v pd bb cc pp wr => ∃ b c p : Nat, b ≤ p ∧ p ≤ n ∧ c ≤ p ∧ bb = .int .i64 b ∧ cc = .int .i64 c ∧ pp = .int .i64 p ∧ pd = .bool (pend bs b p) ∧ Spl w9 t n ba bs line b c p v wr) (fun _ _ _ _ pp _ => n - (intOf pp).toNat)
    case atStart => exact ⟨st, 0, st, Nat.le_refl _, h1, Nat.zero_le _, rfl, rfl, rfl, by rw [pend_start], hk0⟩
    case round =>
      obtain ⟨b, c, p, hbp, hp1, hcp, rfl, rfl, rfl, rfl, hkr, ⟨last, begun, hxr⟩, hown⟩ := hrel
      clear hk0
      have hll := line_le bs b p
      have hrow := spl_ints HG9.out hbi9 hkr
      by_cases hlt : p < n
      · have hpn : p < bs.length := by rw [HL.out]; omega
        by_cases hnl : bs[p] = 10
        · have hT := take15 t n b p ba ((p : Int) + 1) n _ begun last bs wr hxr hn HL.out HG9.out hrow hbp (by omega)
          obtain ⟨gb, go, rfl, cK⟩ := hrow.at (List.getElem?_eq_getElem hpn)
          rw [hnl] at cK
          obtain ⟨aw, cw, rfl, -⟩ := Ints.ofOwns hown
          go_wp2_with fail
          refine hT.mono ?_
          rintro e w3 ⟨rfl, al, cl, xl, kl, il⟩
          have hown3 := own_kept hxr kl hown
          obtain ⟨aw', cw', hv, hiw⟩ := Ints.ofOwns hown3
          simp only [Value.slice.injEq] at hv
          obtain ⟨rfl, -, rfl⟩ := hv
          have hk3 := hkr.trans kl
          have hS := same11 al aw (lineL bs b p).length cl cw _ w3 rfl (by omega) il hiw
          have hLa := last16 t _ _ _ _ _ _ w3 xl
          have hB := fun m => begun17 t _ _ _ _ _ _ (w3.drewN m) (show Box (w3.drewN m) t 51 _ from xl)
          have hSt := fun m => start18 t _ _ _ _ _ _ (w3.drewN m) (show Box (w3.drewN m) t 51 _ from xl)
          have hLi := fun m => line19 t _ _ _ _ _ _ (w3.drewN m) (show Box (w3.drewN m) t 51 _ from xl)
          have hq : (wrap64 (wrap64 (line + (c : Int)) + 1) != wrap64 (line + ((c : Int) + 1))) = false := by rw [wrap_succ]; simp
          clear hT hown hown3 hiw il hrow kl hxr cK
          go_wp2_with (first | (go_at_call 16; refine hLa.mono ?_; rintro e w' ⟨rfl, hw'⟩; rw [hw']; clear hw' w') | (go_at_call 11; refine hS.mono ?_; rintro e w' ⟨rfl, mm, hw'⟩; rw [hw']; clear hw' w') | (go_at_call 17; refine (hB _).mono ?_; rintro e w' ⟨rfl, hw'⟩; rw [hw']; clear hw' w') | (go_at_call 18; refine (hSt _).mono ?_; rintro e w' ⟨rfl, hw'⟩; rw [hw']; clear hw' w') | (go_at_call 19; refine (hLi _).mono ?_; rintro e w' ⟨rfl, hw'⟩; rw [hw']; clear hw' w'))
          refine ⟨⟨p + 1, c + 1, p + 1, Nat.le_refl _, by omega, by omega, by go_num, by go_num, by go_num, by rw [pend_start], hk3.drewN _, ⟨.slice al (lineL bs b p).length cl, (b : Int), ?_⟩, ?_⟩, ?_⟩
          · have e1 : (((c + 1 : Nat)) : Int) = (c : Int) + 1 := by omega
            have e2 : (((p + 1 : Nat)) : Int) = (p : Int) + 1 := by omega
            rw [e1, e2, ← wrap_succ]
            exact xl
          · rw [line_start]; exact World.ownsRow_nil _ _ 5 1
          · simp [intOf]; omega
        · have hnl' : (bs[p] == 10) = false := by simpa using hnl
          obtain ⟨gb, go, rfl, cK⟩ := hrow.at (List.getElem?_eq_getElem hpn)
          clear hrow
          go_upto_if 93 with fail
          go_cut [9, 10] from 48 to 102 (fun v pd wq => pd = .bool false ∧ Kept (fun k => k = t) w9 wq ∧ (∃ last begun, Box wq t 51 (lrC (.slice (some ⟨gb, go, none⟩) n n) b n last (wrap64 (line + (c : Int))) begun)) ∧ wq.ownsRow w9.heap.size 5 1 v ((bs.take p).drop b).length (((bs.take p).drop b).map (Value.int .u8)))
          case first =>
            cases hpe : pend bs b p
            · have HE : Hid _ := pend_no hpe
              go_wp2
              go_meet
              case rel => exact ⟨rfl, hkr, ⟨last, begun, hxr⟩, by rw [← HE.out]; exact hown⟩
            · have HE : Hid _ := pend_yes (Nat.le_of_lt hpn) hpe
              have hlr := hkr.size
              go_wp2_with (at_builtin; refine wpList_app1 _ rfl _ _ 22 rfl w9.heap.size 5 ie (.int .u8 0) 1 Try.underlying22 hi hz0 hz1 hz2 rfl _ _ _ rfl (hown.alloc _) ⟨wr.heap.size, 0, none⟩ (.int .u8 13) rfl (cell_one_new _ _ _) rfl (by unfold maxLen; omega) (by omega) (by simp; omega) ?_)
              intro g3 cap3 w3 q3 g3'
              have hk3 := (hkr.alloc (.cells #[.int .u8 13] 5)).grown g3' (owns_ge hown)
              have hx3 := (hxr.alloc (.cells #[.int .u8 13] 5)).grown g3' (owns_ne hown hxr (by decide))
              clear g3' hown
              go_wp2
              go_meet
              case rel => exact ⟨rfl, hk3, ⟨last, begun, hx3⟩, by rw [← HE.out]; simpa using q3⟩
          case rest =>
            clear hown hkr cK hxr
            obtain ⟨rfl, hkq, ⟨last', begun', hxq⟩, hown⟩ := hcut
            have hll' : ((bs.take p).drop b).length ≤ 1048576 := by simp; omega
            by_cases hc : bs[p] = 13
            · have HE : Hid _ := line_cr hbp hpn hc
              have hc' : (bs[p] == 13) = true := by simp [hc]
              generalize bs[p] = z at *
              clear hc
              go_wp2
              obtain ⟨e1, e2⟩ := HE.out
              refine ⟨⟨b, c, p + 1, by omega, by omega, by omega, rfl, rfl, by go_num, by rw [e2], hkq, ⟨_, _, hxq⟩, by rw [e1]; exact hown⟩, ?_⟩
              simp [intOf]; omega
            · have HE : Hid _ := line_other hbp hpn hc
              have hc' : (bs[p] == 13) = false := by simpa using hc
              have hlr := hkq.size
              generalize bs[p] = z at *
              clear hc
              go_wp2_with (at_builtin; refine wpList_app1 _ rfl _ _ 22 rfl w9.heap.size 5 ie (.int .u8 0) 1 Try.underlying22 hi hz0 hz1 hz2 rfl _ _ _ rfl (hown.alloc _) ⟨wc.heap.size, 0, none⟩ (.int .u8 z) rfl (cell_one_new _ _ _) rfl (by unfold maxLen; omega) (by omega) (by simp; omega) ?_)
              intro g3 cap3 w3 q3 g3'
              have hk3 := (hkq.alloc (.cells #[.int .u8 z] 5)).grown g3' (owns_ge hown)
              have hx3 := (hxq.alloc (.cells #[.int .u8 z] 5)).grown g3' (owns_ne hown hxq (by decide))
              clear g3' hown
              go_wp2
              obtain ⟨e1, e2⟩ := HE.out
              refine ⟨⟨b, c, p + 1, by omega, by omega, by omega, rfl, rfl, by go_num, by rw [e2], hk3, ⟨_, _, hx3⟩, ?_⟩, ?_⟩
              · rw [e1]; simpa using q3
              · simp [intOf]; omega
      · have hpe : p = n := by omega
        by_cases hbn : b < n
        · have hT := take15 t n b n ba n n _ begun last bs wr hxr hn HL.out HG9.out hrow (by omega) (Nat.le_refl _)
          rw [hpe] at hown
          obtain ⟨aw, cw, rfl, -⟩ := Ints.ofOwns hown
          clear hrow
          go_wp2_with fail
          refine hT.mono ?_
          rintro e w3 ⟨rfl, al, cl, xl, kl, il⟩
          have hown3 := own_kept hxr kl hown
          obtain ⟨aw', cw', hv, hiw⟩ := Ints.ofOwns hown3
          simp only [Value.slice.injEq] at hv
          obtain ⟨rfl, -, rfl⟩ := hv
          have hk3 := hkr.trans kl
          have hll2 := line_le bs b n
          have hS := same11 al aw (lineL bs b n).length cl cw _ w3 rfl (by omega) il hiw
          have hLa := last16 t _ _ _ _ _ _ w3 xl
          have hB := fun m => begun17 t _ _ _ _ _ _ (w3.drewN m) (show Box (w3.drewN m) t 51 _ from xl)
          have hSt := fun m => start18 t _ _ _ _ _ _ (w3.drewN m) (show Box (w3.drewN m) t 51 _ from xl)
          have hLi := fun m => line19 t _ _ _ _ _ _ (w3.drewN m) (show Box (w3.drewN m) t 51 _ from xl)
          have hq : (wrap64 (wrap64 (line + (c : Int)) + 1) == wrap64 (line + ((c : Int) + 1))) = true := by rw [wrap_succ]; simp
          clear hT hown hown3 hiw il kl hxr
          go_wp2_with (first | (go_at_call 16; refine hLa.mono ?_; rintro e w' ⟨rfl, hw'⟩; rw [hw']; clear hw' w') | (go_at_call 11; refine hS.mono ?_; rintro e w' ⟨rfl, mm, hw'⟩; rw [hw']; clear hw' w') | (go_at_call 17; refine (hB _).mono ?_; rintro e w' ⟨rfl, hw'⟩; rw [hw']; clear hw' w') | (go_at_call 18; refine (hSt _).mono ?_; rintro e w' ⟨rfl, hw'⟩; rw [hw']; clear hw' w') | (go_at_call 19; refine (hLi _).mono ?_; rintro e w' ⟨rfl, hw'⟩; rw [hw']; clear hw' w'))
          go_ret
          exact ⟨rfl, HBF.out _ (hk3.drewN _)⟩
        · have hLi := line19 t _ _ _ _ _ _ wr hxr
          have hbf := HBF.out _ hkr
          clear hrow hown hxr
          go_wp2_with (go_at_call 19; refine hLi.mono ?_; rintro e w' ⟨rfl, hw'⟩; rw [hw']; clear hw' w')
          go_ret
          exact ⟨rfl, hbf⟩

set_option maxRecDepth 100000 in
set_option maxHeartbeats 1000000 in
theorem walk6big (a0 : Option Addr) (n cap0 : Nat) (a1 a2 : Int) (w : World) (hm : n ≤ maxLen) (hn : ¬ n ≤ 1048576) :
    Calls Try.prog 6 #[.slice a0 n cap0, .int .i64 a1, .int .i64 a2] w fun e w' => e = .returned (.bool true) ∧ Below w.heap.size w w' := by
  have hnot : ∀ (x : Bool) (w : World), (Op.unary .not (.bool x)).run Try.prog w = .ok (.bool (!x)) w := fun _ _ => rfl
  go_enter Try.func6, Try.ntmps6
  go_wp2_with (go_at_call 20; refine (zzb20no _ _ _ _ _ _ hn hm).mono ?_; rintro e w' ⟨rfl, hw'⟩; rw [hw']; clear hw' w')
  go_ret
  exact ⟨rfl, Below.refl _ _⟩

set_option maxRecDepth 100000 in
set_option maxHeartbeats 1000000 in
theorem walk6bad (a0 : Option Addr) (n cap0 : Nat) (a1 a2 : Int) (w : World) (hn : n ≤ 1048576) (hb : decide (a1 < 0) = true ∨ (decide (a1 < 0) = false ∧ decide ((n : Int) < a1) = true)) :
    Calls Try.prog 6 #[.slice a0 n cap0, .int .i64 a1, .int .i64 a2] w fun e w' => e = .returned (.bool true) ∧ Below w.heap.size w w' := by
  have hnot : ∀ (x : Bool) (w : World), (Op.unary .not (.bool x)).run Try.prog w = .ok (.bool (!x)) w := fun _ _ => rfl
  rcases hb with h1 | ⟨h1, h2⟩
  all_goals
    go_enter Try.func6, Try.ntmps6
    go_wp2_with (go_at_call 20; refine (zzb20 _ _ _ _ _ _ hn).mono ?_; rintro e w' ⟨rfl, hw'⟩; rw [hw']; clear hw' w')
    go_ret
    exact ⟨rfl, Below.refl _ _⟩

theorem walk6all (a0 : Option Addr) (n cap0 : Nat) (z0 : List Int) (a1 a2 : Int) (w : World) (w0 : IsRow .u8 w a0 n cap0 z0) (hw : (Lit.int .i64 a2).wf = true) :
    Calls Try.prog 6 #[.slice a0 n cap0, .int .i64 a1, .int .i64 a2] w fun e w' => e = .returned (.bool true) ∧ Below w.heap.size w w' := by
  by_cases hn : n ≤ 1048576
  · by_cases h1 : a1 < 0
    · exact walk6bad a0 n cap0 a1 a2 w hn (.inl (decide_eq_true h1))
    · by_cases h2 : (n : Int) < a1
      · exact walk6bad a0 n cap0 a1 a2 w hn (.inr ⟨decide_eq_false h1, decide_eq_true h2⟩)
      · obtain ⟨st, rfl⟩ := Int.eq_ofNat_of_zero_le (a := a1) (by omega)
        exact walk6 a0 n cap0 z0 st a2 w w0 hw hn (by omega)
  · exact walk6big a0 n cap0 a1 a2 w w0.le hn
end Go.Proofs.Qxb6612358a
