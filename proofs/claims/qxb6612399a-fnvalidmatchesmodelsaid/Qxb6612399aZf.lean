/- zzMembers, walked. -/
import Derived.Test.Qxb6612399aZe
namespace Go.Proofs.Qxb6612399a
open Go.RowKit
set_option linter.unusedVariables false

def mbC (v : List Int → Option (List Int)) (f : Nat) (l : List Int) : Option (List Int) :=
  match l with
  | [] => none
  | c :: r => if c = 125 then some r else if c = 44 then mbLoop v f r else none
def mbB (v : List Int → Option (List Int)) (f : Nat) (l : List Int) : Option (List Int) :=
  match l with
  | [] => none
  | d :: r1 => if d = 58 then (match v (skip r1) with | none => none | some l2 => mbC v f (skip l2)) else none
def mbA (v : List Int → Option (List Int)) (f : Nat) (l : List Int) : Option (List Int) :=
  match l with
  | [] => none
  | q :: r0 => if q = 34 then (match str r0 with | none => none | some l1 => mbB v f (skip l1)) else none
theorem mbLoop_eq (v : List Int → Option (List Int)) (f : Nat) (l : List Int) : mbLoop v (f + 1) l = mbA v f (skip l) := by
  simp only [mbLoop, mbA]
  cases skip l with
  | nil => rfl
  | cons q r0 =>
    dsimp only
    congr 1
theorem mbC_close {v : List Int → Option (List Int)} {f : Nat} (r : List Int) : mbC v f (125 :: r) = some r := by simp [mbC]
theorem mbC_bad {v : List Int → Option (List Int)} {f : Nat} {c : Int} (r : List Int) (h : ¬ c = 125) (h2 : ¬ c = 44) : mbC v f (c :: r) = none := by simp [mbC, h, h2]
theorem mbA_bad {v : List Int → Option (List Int)} {f : Nat} {c : Int} (r : List Int) (h : ¬ c = 34) : mbA v f (c :: r) = none := by simp [mbA, h]
theorem mbA_none {v : List Int → Option (List Int)} {f : Nat} (r : List Int) (h : str r = none) : mbA v f (34 :: r) = none := by simp [mbA, h]
theorem mbA_some {v : List Int → Option (List Int)} {f : Nat} (r : List Int) {l : List Int} (h : str r = some l) : mbA v f (34 :: r) = mbB v f (skip l) := by simp [mbA, h]
theorem mbB_bad {v : List Int → Option (List Int)} {f : Nat} {c : Int} (r : List Int) (h : ¬ c = 58) : mbB v f (c :: r) = none := by simp [mbB, h]
theorem mbB_none {v : List Int → Option (List Int)} {f : Nat} (r : List Int) (h : v (skip r) = none) : mbB v f (58 :: r) = none := by simp [mbB, h]
theorem mbB_some {v : List Int → Option (List Int)} {f : Nat} (r : List Int) {l : List Int} (h : v (skip r) = some l) : mbB v f (58 :: r) = mbC v f (skip l) := by simp [mbB, h]
theorem membs_close {v : List Int → Option (List Int)} {l r : List Int} (h : skip l = 125 :: r) : membs v l = some r := by simp [membs, h]
theorem membs_go {v : List Int → Option (List Int)} {l l1 : List Int} (h : skip l = l1) (h2 : ∀ r, ¬ l1 = 125 :: r) : membs v l = mbLoop v (l1.length + 1) l1 := by
  cases l1 with
  | nil => simp [membs, h]
  | cons c r =>
    have : ¬ c = 125 := by rintro rfl; exact h2 r rfl
    simp [membs, h, this]

set_option maxRecDepth 100000 in
set_option maxHeartbeats 4000000 in
theorem mbs14 (g n cp m d i : Nat) (bs : List Int) (w : World) (hc : Cel w g bs) (hl : bs.length = n) (hn : n ≤ 1048576) (hi : i < n)
    (hV : ValC g n cp bs m) (hdm : d + m = 10000) :
    Calls Try.prog 14 #[.slice (some ⟨g, 0, none⟩) n cp, .int .i64 i, .int .i64 d] w fun e w' => e = .returned (.int .i64 (idx n (membs (val m) (bs.drop (i + 1))))) ∧ ∃ q, w' = w.drewN q := by
  have HL : Hid (bs.length = n) := hl
  have HV : Hid _ := hV
  have HDM : Hid _ := hdm
  obtain ⟨k0, hik0, hk0, hs0, C0⟩ := skipAt g n cp (i + 1) bs hl hn (by omega)
  clear hl hV hdm
  have HC0 : Hid _ := C0
  clear C0
  cases hd0 : bs.drop k0 with
  | nil =>
    have hkn : n ≤ k0 := by have := drop_nil hd0; rw [HL.out] at this; exact this
    have hlt : ¬ k0 < n := by omega
    have HR : Hid (membs (val m) (bs.drop (i + 1)) = mbLoop (val m) 1 (bs.drop k0)) := by
      rw [membs_go hs0 (by intro r; rw [hd0]; simp)]; rw [hd0]; exact rfl
    clear hd0 hs0
    go_enter Try.func14, Try.ntmps14
    go_wp2_with (go_at_call 9; refine (HC0.out _ hc).mono ?_; rintro e w' ⟨rfl, hw'⟩; rw [hw']; clear hw' w')
    go_loopw [1] (fun v wr => ∃ k f : Nat, v = .int .i64 k ∧ k ≤ n ∧ n - k < f ∧ mbLoop (val m) f (bs.drop k) = membs (val m) (bs.drop (i + 1)) ∧ ∃ q, wr = w.drewN q) (fun v _ => n - (intOf v).toNat)
    case atStart => exact ⟨k0, 1, rfl, hk0, by omega, HR.out.symm, 0, rfl⟩
    case round =>
      obtain ⟨k, f, rfl, hk, hf, he, q, hwr⟩ := hrel
      subst hwr
      obtain ⟨f, rfl⟩ : ∃ f', f = f' + 1 := ⟨f - 1, by omega⟩
      obtain ⟨k1, hkk1, hk1, hs1, C1⟩ := skipAt g n cp k bs HL.out hn hk
      have HC1 : Hid _ := C1
      clear C1
      have HE : Hid (mbA (val m) f (bs.drop k1) = membs (val m) (bs.drop (i + 1))) := by rw [← he, mbLoop_eq, hs1]; exact rfl
      clear he hs1
      go_wp2_with fail
      go_at_call 9
      refine (HC1.out _ (hc.drewN _)).mono ?_
      rintro e w' ⟨rfl, hw'⟩
      rw [hw']
      clear hw' w'
      cases hd1 : bs.drop k1 with
      | nil =>
        have hkn : n ≤ k1 := by have := drop_nil hd1; rw [HL.out] at this; exact this
        have hge3 : decide (n ≤ k1) = true := by simp; omega
        have HQ : Hid (idx n (membs (val m) (bs.drop (i + 1))) = -1) := by rw [← HE.out, hd1]; exact rfl
        clear hd1
        go_wp2_with fail
        go_ret
        exact ⟨by rw [HQ.out]; rfl, _, rfl⟩
      | cons c r =>
        obtain ⟨-, hltk1, hdrk1⟩ := drop_at hd1
        rw [HL.out] at hltk1
        have ck1K := hc.rd hd1
        have hgek1 : decide (n ≤ k1) = false := by simp; omega
        by_cases h34 : c = 34
        · subst h34
          rcases strAt g n cp k1 bs HL.out hn hltk1 with ⟨hv, C2⟩ | ⟨k2, hk12, hk2, hv, C2⟩
          · have HC2 : Hid _ := C2
            clear C2
            have HQ : Hid (idx n (membs (val m) (bs.drop (i + 1))) = -1) := by rw [← HE.out, hd1, mbA_none _ (by rw [← hdrk1]; exact hv)]; exact rfl
            clear hv hd1 hdrk1
            go_wp2_with fail
            go_at_call 15
            refine (HC2.out _ (hc.drewN _)).mono ?_
            rintro e w' ⟨rfl, hw'⟩
            rw [hw']
            clear hw' w'
            go_wp2_with fail
            go_ret
            exact ⟨by rw [HQ.out]; rfl, _, rfl⟩
          · have HC2 : Hid _ := C2
            clear C2
            obtain ⟨k3, hkk3, hk3, hs3, C3⟩ := skipAt g n cp k2 bs HL.out hn hk2
            have HC3 : Hid _ := C3
            clear C3
            have HE2 : Hid (mbB (val m) f (bs.drop k3) = membs (val m) (bs.drop (i + 1))) := by
              rw [← HE.out, hd1, mbA_some _ (by rw [← hdrk1]; exact hv), hs3]; exact rfl
            clear hv hs3 hd1 hdrk1 HE
            have HE := HE2
            clear HE2
            go_wp2_with fail
            go_at_call 15
            refine (HC2.out _ (hc.drewN _)).mono ?_
            rintro e w' ⟨rfl, hw'⟩
            rw [hw']
            clear hw' w'
            go_wp2_with fail
            go_at_call 9
            refine (HC3.out _ (hc.drewN _)).mono ?_
            rintro e w' ⟨rfl, hw'⟩
            rw [hw']
            clear hw' w'
            cases hd3 : bs.drop k3 with
            | nil =>
              have hkn : n ≤ k3 := by have := drop_nil hd3; rw [HL.out] at this; exact this
              have hge3 : decide (n ≤ k3) = true := by simp; omega
              have HQ : Hid (idx n (membs (val m) (bs.drop (i + 1))) = -1) := by rw [← HE.out, hd3]; exact rfl
              clear hd3
              go_wp2_with fail
              go_ret
              exact ⟨by rw [HQ.out]; rfl, _, rfl⟩
            | cons c r =>
              obtain ⟨-, hltk3, hdrk3⟩ := drop_at hd3
              rw [HL.out] at hltk3
              have ck3K := hc.rd hd3
              have hgek3 : decide (n ≤ k3) = false := by simp; omega
              by_cases h58 : c = 58
              · subst h58
                obtain ⟨k4, hkk4, hk4, hs4, C4⟩ := skipAt g n cp (k3 + 1) bs HL.out hn (by omega)
                have HC4 : Hid _ := C4
                clear C4
                rcases valAt HV.out d k4 HDM.out HL.out hk4 with ⟨hv, C5⟩ | ⟨k5, hk45, hk5, hv, C5⟩
                · have HC5 : Hid _ := C5
                  clear C5
                  have HQ : Hid (idx n (membs (val m) (bs.drop (i + 1))) = -1) := by rw [← HE.out, hd3, mbB_none _ (by rw [← hdrk3, hs4]; exact hv)]; exact rfl
                  clear hv hs4 hd3 hdrk3
                  go_wp2_with fail
                  go_at_call 9
                  refine (HC4.out _ (hc.drewN _)).mono ?_
                  rintro e w' ⟨rfl, hw'⟩
                  rw [hw']
                  clear hw' w'
                  go_wp2_with fail
                  go_at_call 8
                  refine (HC5.out _ (hc.drewN _)).mono ?_
                  rintro e w' ⟨rfl, q2, hw'⟩
                  rw [hw']
                  clear hw' w'
                  go_wp2_with fail
                  go_ret
                  exact ⟨by rw [HQ.out]; rfl, _, rfl⟩
                · have HC5 : Hid _ := C5
                  clear C5
                  obtain ⟨k6, hkk6, hk6, hs6, C6⟩ := skipAt g n cp k5 bs HL.out hn hk5
                  have HC6 : Hid _ := C6
                  clear C6
                  have HE2 : Hid (mbC (val m) f (bs.drop k6) = membs (val m) (bs.drop (i + 1))) := by
                    rw [← HE.out, hd3, mbB_some _ (by rw [← hdrk3, hs4]; exact hv), hs6]; exact rfl
                  clear hv hs4 hs6 hd3 hdrk3 HE
                  have HE := HE2
                  clear HE2
                  go_wp2_with fail
                  go_at_call 9
                  refine (HC4.out _ (hc.drewN _)).mono ?_
                  rintro e w' ⟨rfl, hw'⟩
                  rw [hw']
                  clear hw' w'
                  go_wp2_with fail
                  go_at_call 8
                  refine (HC5.out _ (hc.drewN _)).mono ?_
                  rintro e w' ⟨rfl, q2, hw'⟩
                  rw [hw']
                  clear hw' w'
                  go_wp2_with fail
                  go_at_call 9
                  refine (HC6.out _ (hc.drewN _)).mono ?_
                  rintro e w' ⟨rfl, hw'⟩
                  rw [hw']
                  clear hw' w'
                  cases hd6 : bs.drop k6 with
                  | nil =>
                    have hkn : n ≤ k6 := by have := drop_nil hd6; rw [HL.out] at this; exact this
                    have hge3 : decide (n ≤ k6) = true := by simp; omega
                    have HQ : Hid (idx n (membs (val m) (bs.drop (i + 1))) = -1) := by rw [← HE.out, hd6]; exact rfl
                    clear hd6
                    go_wp2_with fail
                    go_ret
                    exact ⟨by rw [HQ.out]; rfl, _, rfl⟩
                  | cons c r =>
                    obtain ⟨-, hltk6, hdrk6⟩ := drop_at hd6
                    rw [HL.out] at hltk6
                    have ck6K := hc.rd hd6
                    have hgek6 : decide (n ≤ k6) = false := by simp; omega
                    by_cases h93 : c = 125
                    · subst h93
                      have HQ : Hid (idx n (membs (val m) (bs.drop (i + 1))) = ((k6 + 1 : Nat) : Int)) := by
                        rw [← HE.out, hd6, mbC_close, ← hdrk6, idx_some n (k6 + 1)]
                        exact rfl
                        rw [List.length_drop, HL.out]; omega
                      clear hd6 hdrk6
                      go_wp2_with fail
                      go_ret
                      exact ⟨by rw [HQ.out]; go_num, _, rfl⟩
                    · have h93' : (c == 125) = false := by simpa using h93
                      by_cases h44 : c = 44
                      · subst h44
                        have HQ : Hid (mbLoop (val m) f (bs.drop (k6 + 1)) = membs (val m) (bs.drop (i + 1))) := by
                          rw [← HE.out, hd6, hdrk6]; exact rfl
                        clear hd6 hdrk6
                        go_wp2_with fail
                        refine ⟨⟨k6 + 1, f, by go_num, by omega, by omega, HQ.out, _, rfl⟩, ?_⟩
                        simp [intOf]; omega
                      · have h44' : (c != 44) = true := by simpa using h44
                        have HQ : Hid (idx n (membs (val m) (bs.drop (i + 1))) = -1) := by
                          rw [← HE.out, hd6, mbC_bad _ h93 h44]
                          exact rfl
                        clear hd6 hdrk6
                        go_wp2_with fail
                        go_ret
                        exact ⟨by rw [HQ.out]; rfl, _, rfl⟩
              · have h58' : (c != 58) = true := by simpa using h58
                have HQ : Hid (idx n (membs (val m) (bs.drop (i + 1))) = -1) := by rw [← HE.out, hd3, mbB_bad _ h58]; exact rfl
                clear hd3 hdrk3
                go_wp2_with fail
                go_ret
                exact ⟨by rw [HQ.out]; rfl, _, rfl⟩
        · have h34' : (c != 34) = true := by simpa using h34
          have HQ : Hid (idx n (membs (val m) (bs.drop (i + 1))) = -1) := by rw [← HE.out, hd1, mbA_bad _ h34]; exact rfl
          clear hd1 hdrk1
          go_wp2_with fail
          go_ret
          exact ⟨by rw [HQ.out]; rfl, _, rfl⟩
  | cons c0 r0 =>
    obtain ⟨-, hlt, hdr0⟩ := drop_at hd0
    rw [HL.out] at hlt
    have cK0 := hc.rd hd0
    by_cases hz : c0 = 125
    · subst hz
      have HR : Hid (idx n (membs (val m) (bs.drop (i + 1))) = ((k0 + 1 : Nat) : Int)) := by
        rw [membs_close (hs0.trans hd0), ← hdr0, idx_some n (k0 + 1)]
        exact rfl
        rw [List.length_drop, HL.out]; omega
      clear hd0 hdr0 hs0
      go_enter Try.func14, Try.ntmps14
      go_wp2_with (go_at_call 9; refine (HC0.out _ hc).mono ?_; rintro e w' ⟨rfl, hw'⟩; rw [hw']; clear hw' w')
      go_ret
      exact ⟨by rw [HR.out]; go_num, 0, rfl⟩
    · have hz' : (c0 == 125) = false := by simpa using hz
      have HR : Hid (membs (val m) (bs.drop (i + 1)) = mbLoop (val m) (r0.length + 2) (bs.drop k0)) := by
        rw [membs_go hs0 (by intro r; rw [hd0]; intro h; exact hz (List.cons.inj h).1)]; rw [hd0]; exact rfl
      have HF : Hid (n - k0 < r0.length + 2) := by
        have := congrArg List.length hd0
        rw [List.length_drop, HL.out] at this
        simp at this
        show _ < _
        omega
      clear hd0 hdr0 hs0
      go_enter Try.func14, Try.ntmps14
      go_wp2_with (go_at_call 9; refine (HC0.out _ hc).mono ?_; rintro e w' ⟨rfl, hw'⟩; rw [hw']; clear hw' w')
      go_loopw [1] (fun v wr => ∃ k f : Nat, v = .int .i64 k ∧ k ≤ n ∧ n - k < f ∧ mbLoop (val m) f (bs.drop k) = membs (val m) (bs.drop (i + 1)) ∧ ∃ q, wr = w.drewN q) (fun v _ => n - (intOf v).toNat)
      case atStart => exact ⟨k0, r0.length + 2, rfl, hk0, HF.out, HR.out.symm, 0, rfl⟩
      case round =>
        obtain ⟨k, f, rfl, hk, hf, he, q, hwr⟩ := hrel
        subst hwr
        obtain ⟨f, rfl⟩ : ∃ f', f = f' + 1 := ⟨f - 1, by omega⟩
        obtain ⟨k1, hkk1, hk1, hs1, C1⟩ := skipAt g n cp k bs HL.out hn hk
        have HC1 : Hid _ := C1
        clear C1
        have HE : Hid (mbA (val m) f (bs.drop k1) = membs (val m) (bs.drop (i + 1))) := by rw [← he, mbLoop_eq, hs1]; exact rfl
        clear he hs1
        go_wp2_with fail
        go_at_call 9
        refine (HC1.out _ (hc.drewN _)).mono ?_
        rintro e w' ⟨rfl, hw'⟩
        rw [hw']
        clear hw' w'
        cases hd1 : bs.drop k1 with
        | nil =>
          have hkn : n ≤ k1 := by have := drop_nil hd1; rw [HL.out] at this; exact this
          have hge3 : decide (n ≤ k1) = true := by simp; omega
          have HQ : Hid (idx n (membs (val m) (bs.drop (i + 1))) = -1) := by rw [← HE.out, hd1]; exact rfl
          clear hd1
          go_wp2_with fail
          go_ret
          exact ⟨by rw [HQ.out]; rfl, _, rfl⟩
        | cons c r =>
          obtain ⟨-, hltk1, hdrk1⟩ := drop_at hd1
          rw [HL.out] at hltk1
          have ck1K := hc.rd hd1
          have hgek1 : decide (n ≤ k1) = false := by simp; omega
          by_cases h34 : c = 34
          · subst h34
            rcases strAt g n cp k1 bs HL.out hn hltk1 with ⟨hv, C2⟩ | ⟨k2, hk12, hk2, hv, C2⟩
            · have HC2 : Hid _ := C2
              clear C2
              have HQ : Hid (idx n (membs (val m) (bs.drop (i + 1))) = -1) := by rw [← HE.out, hd1, mbA_none _ (by rw [← hdrk1]; exact hv)]; exact rfl
              clear hv hd1 hdrk1
              go_wp2_with fail
              go_at_call 15
              refine (HC2.out _ (hc.drewN _)).mono ?_
              rintro e w' ⟨rfl, hw'⟩
              rw [hw']
              clear hw' w'
              go_wp2_with fail
              go_ret
              exact ⟨by rw [HQ.out]; rfl, _, rfl⟩
            · have HC2 : Hid _ := C2
              clear C2
              obtain ⟨k3, hkk3, hk3, hs3, C3⟩ := skipAt g n cp k2 bs HL.out hn hk2
              have HC3 : Hid _ := C3
              clear C3
              have HE2 : Hid (mbB (val m) f (bs.drop k3) = membs (val m) (bs.drop (i + 1))) := by
                rw [← HE.out, hd1, mbA_some _ (by rw [← hdrk1]; exact hv), hs3]; exact rfl
              clear hv hs3 hd1 hdrk1 HE
              have HE := HE2
              clear HE2
              go_wp2_with fail
              go_at_call 15
              refine (HC2.out _ (hc.drewN _)).mono ?_
              rintro e w' ⟨rfl, hw'⟩
              rw [hw']
              clear hw' w'
              go_wp2_with fail
              go_at_call 9
              refine (HC3.out _ (hc.drewN _)).mono ?_
              rintro e w' ⟨rfl, hw'⟩
              rw [hw']
              clear hw' w'
              cases hd3 : bs.drop k3 with
              | nil =>
                have hkn : n ≤ k3 := by have := drop_nil hd3; rw [HL.out] at this; exact this
                have hge3 : decide (n ≤ k3) = true := by simp; omega
                have HQ : Hid (idx n (membs (val m) (bs.drop (i + 1))) = -1) := by rw [← HE.out, hd3]; exact rfl
                clear hd3
                go_wp2_with fail
                go_ret
                exact ⟨by rw [HQ.out]; rfl, _, rfl⟩
              | cons c r =>
                obtain ⟨-, hltk3, hdrk3⟩ := drop_at hd3
                rw [HL.out] at hltk3
                have ck3K := hc.rd hd3
                have hgek3 : decide (n ≤ k3) = false := by simp; omega
                by_cases h58 : c = 58
                · subst h58
                  obtain ⟨k4, hkk4, hk4, hs4, C4⟩ := skipAt g n cp (k3 + 1) bs HL.out hn (by omega)
                  have HC4 : Hid _ := C4
                  clear C4
                  rcases valAt HV.out d k4 HDM.out HL.out hk4 with ⟨hv, C5⟩ | ⟨k5, hk45, hk5, hv, C5⟩
                  · have HC5 : Hid _ := C5
                    clear C5
                    have HQ : Hid (idx n (membs (val m) (bs.drop (i + 1))) = -1) := by rw [← HE.out, hd3, mbB_none _ (by rw [← hdrk3, hs4]; exact hv)]; exact rfl
                    clear hv hs4 hd3 hdrk3
                    go_wp2_with fail
                    go_at_call 9
                    refine (HC4.out _ (hc.drewN _)).mono ?_
                    rintro e w' ⟨rfl, hw'⟩
                    rw [hw']
                    clear hw' w'
                    go_wp2_with fail
                    go_at_call 8
                    refine (HC5.out _ (hc.drewN _)).mono ?_
                    rintro e w' ⟨rfl, q2, hw'⟩
                    rw [hw']
                    clear hw' w'
                    go_wp2_with fail
                    go_ret
                    exact ⟨by rw [HQ.out]; rfl, _, rfl⟩
                  · have HC5 : Hid _ := C5
                    clear C5
                    obtain ⟨k6, hkk6, hk6, hs6, C6⟩ := skipAt g n cp k5 bs HL.out hn hk5
                    have HC6 : Hid _ := C6
                    clear C6
                    have HE2 : Hid (mbC (val m) f (bs.drop k6) = membs (val m) (bs.drop (i + 1))) := by
                      rw [← HE.out, hd3, mbB_some _ (by rw [← hdrk3, hs4]; exact hv), hs6]; exact rfl
                    clear hv hs4 hs6 hd3 hdrk3 HE
                    have HE := HE2
                    clear HE2
                    go_wp2_with fail
                    go_at_call 9
                    refine (HC4.out _ (hc.drewN _)).mono ?_
                    rintro e w' ⟨rfl, hw'⟩
                    rw [hw']
                    clear hw' w'
                    go_wp2_with fail
                    go_at_call 8
                    refine (HC5.out _ (hc.drewN _)).mono ?_
                    rintro e w' ⟨rfl, q2, hw'⟩
                    rw [hw']
                    clear hw' w'
                    go_wp2_with fail
                    go_at_call 9
                    refine (HC6.out _ (hc.drewN _)).mono ?_
                    rintro e w' ⟨rfl, hw'⟩
                    rw [hw']
                    clear hw' w'
                    cases hd6 : bs.drop k6 with
                    | nil =>
                      have hkn : n ≤ k6 := by have := drop_nil hd6; rw [HL.out] at this; exact this
                      have hge3 : decide (n ≤ k6) = true := by simp; omega
                      have HQ : Hid (idx n (membs (val m) (bs.drop (i + 1))) = -1) := by rw [← HE.out, hd6]; exact rfl
                      clear hd6
                      go_wp2_with fail
                      go_ret
                      exact ⟨by rw [HQ.out]; rfl, _, rfl⟩
                    | cons c r =>
                      obtain ⟨-, hltk6, hdrk6⟩ := drop_at hd6
                      rw [HL.out] at hltk6
                      have ck6K := hc.rd hd6
                      have hgek6 : decide (n ≤ k6) = false := by simp; omega
                      by_cases h93 : c = 125
                      · subst h93
                        have HQ : Hid (idx n (membs (val m) (bs.drop (i + 1))) = ((k6 + 1 : Nat) : Int)) := by
                          rw [← HE.out, hd6, mbC_close, ← hdrk6, idx_some n (k6 + 1)]
                          exact rfl
                          rw [List.length_drop, HL.out]; omega
                        clear hd6 hdrk6
                        go_wp2_with fail
                        go_ret
                        exact ⟨by rw [HQ.out]; go_num, _, rfl⟩
                      · have h93' : (c == 125) = false := by simpa using h93
                        by_cases h44 : c = 44
                        · subst h44
                          have HQ : Hid (mbLoop (val m) f (bs.drop (k6 + 1)) = membs (val m) (bs.drop (i + 1))) := by
                            rw [← HE.out, hd6, hdrk6]; exact rfl
                          clear hd6 hdrk6
                          go_wp2_with fail
                          refine ⟨⟨k6 + 1, f, by go_num, by omega, by omega, HQ.out, _, rfl⟩, ?_⟩
                          simp [intOf]; omega
                        · have h44' : (c != 44) = true := by simpa using h44
                          have HQ : Hid (idx n (membs (val m) (bs.drop (i + 1))) = -1) := by
                            rw [← HE.out, hd6, mbC_bad _ h93 h44]
                            exact rfl
                          clear hd6 hdrk6
                          go_wp2_with fail
                          go_ret
                          exact ⟨by rw [HQ.out]; rfl, _, rfl⟩
                · have h58' : (c != 58) = true := by simpa using h58
                  have HQ : Hid (idx n (membs (val m) (bs.drop (i + 1))) = -1) := by rw [← HE.out, hd3, mbB_bad _ h58]; exact rfl
                  clear hd3 hdrk3
                  go_wp2_with fail
                  go_ret
                  exact ⟨by rw [HQ.out]; rfl, _, rfl⟩
          · have h34' : (c != 34) = true := by simpa using h34
            have HQ : Hid (idx n (membs (val m) (bs.drop (i + 1))) = -1) := by rw [← HE.out, hd1, mbA_bad _ h34]; exact rfl
            clear hd1 hdrk1
            go_wp2_with fail
            go_ret
            exact ⟨by rw [HQ.out]; rfl, _, rfl⟩
end Go.Proofs.Qxb6612399a
