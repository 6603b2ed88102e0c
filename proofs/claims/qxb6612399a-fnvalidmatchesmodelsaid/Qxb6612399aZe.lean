/- zzValue, zzElements, zzMembers, walked. -/
import Derived.Test.Qxb6612399aZd
namespace Go.Proofs.Qxb6612399a
open Go.RowKit
set_option linter.unusedVariables false

theorem sf_at {bs l : List Int} {n : Nat} (hl : bs.length = n) (h : Sf l bs) : l = bs.drop (n - l.length) ∧ l.length ≤ n := by
  rw [← hl]
  exact ⟨(Sf.drop h).symm, List.IsSuffix.length_le h⟩
theorem sf_drop (bs : List Int) (i : Nat) : Sf (bs.drop i) bs := List.drop_suffix i bs

theorem skipAt (g n cp i : Nat) (bs : List Int) (hl : bs.length = n) (hn : n ≤ 1048576) (hi : i ≤ n) :
    ∃ k, i ≤ k ∧ k ≤ n ∧ skip (bs.drop i) = bs.drop k ∧ ∀ w, Cel w g bs → Calls Try.prog 9 #[.slice (some ⟨g, 0, none⟩) n cp, .int .i64 i] w fun e w' => e = .returned (.int .i64 k) ∧ w' = w := by
  have h1 := sf_at hl ((skip_sf (bs.drop i)).trans (sf_drop bs i))
  have h2 := List.IsSuffix.length_le (skip_sf (bs.drop i))
  rw [List.length_drop, hl] at h2
  exact ⟨n - (skip (bs.drop i)).length, by omega, by omega, h1.1, fun w hc => skip9 g n cp i bs w hc hl hn hi⟩

theorem posAt {n k : Nat} {bs l : List Int} (hl : bs.length = n) (hk : k ≤ n) (h : Pf l (bs.drop k)) : ∃ k', k < k' ∧ k' ≤ n ∧ l = bs.drop k' ∧ idx n (some l) = (k' : Int) := by
  have h1 := sf_at hl (h.1.trans (sf_drop bs k))
  have h2 := h.2
  rw [List.length_drop, hl] at h2
  exact ⟨n - l.length, by omega, by omega, h1.1, rfl⟩

theorem strAt (g n cp i : Nat) (bs : List Int) (hl : bs.length = n) (hn : n ≤ 1048576) (hi : i < n) :
    (str (bs.drop (i + 1)) = none ∧ ∀ w, Cel w g bs → Calls Try.prog 15 #[.slice (some ⟨g, 0, none⟩) n cp, .int .i64 i] w fun e w' => e = .returned (.int .i64 (-1)) ∧ w' = w)
    ∨ ∃ k, i + 1 < k ∧ k ≤ n ∧ str (bs.drop (i + 1)) = some (bs.drop k) ∧ ∀ w, Cel w g bs → Calls Try.prog 15 #[.slice (some ⟨g, 0, none⟩) n cp, .int .i64 i] w fun e w' => e = .returned (.int .i64 k) ∧ w' = w := by
  cases h : str (bs.drop (i + 1)) with
  | none => exact .inl ⟨rfl, fun w hc => by have := str15 g n cp i bs w hc hl hn hi; rw [h] at this; exact this⟩
  | some l =>
    obtain ⟨k, h1, h2, h3, h4⟩ := posAt hl (k := i + 1) (by omega) (str_pf _ _ _ (Nat.le_refl _) h)
    exact .inr ⟨k, h1, h2, by rw [h3], fun w hc => by have := str15 g n cp i bs w hc hl hn hi; rw [h, h4] at this; exact this⟩

/-- zzValue keeps its contract with m brackets to go -/
def ValC (g n cp : Nat) (bs : List Int) (m : Nat) : Prop := ∀ (d i : Nat), d + m = 10000 → i ≤ n → ∀ w, Cel w g bs →
  Calls Try.prog 8 #[.slice (some ⟨g, 0, none⟩) n cp, .int .i64 i, .int .i64 d] w fun e w' => e = .returned (.int .i64 (idx n (val m (bs.drop i)))) ∧ ∃ q, w' = w.drewN q

theorem valAt {g n cp m : Nat} {bs : List Int} (hV : ValC g n cp bs m) (d i : Nat) (hd : d + m = 10000) (hl : bs.length = n) (hi : i ≤ n) :
    (val m (bs.drop i) = none ∧ ∀ w, Cel w g bs → Calls Try.prog 8 #[.slice (some ⟨g, 0, none⟩) n cp, .int .i64 i, .int .i64 d] w fun e w' => e = .returned (.int .i64 (-1)) ∧ ∃ q, w' = w.drewN q)
    ∨ ∃ k, i < k ∧ k ≤ n ∧ val m (bs.drop i) = some (bs.drop k) ∧ ∀ w, Cel w g bs → Calls Try.prog 8 #[.slice (some ⟨g, 0, none⟩) n cp, .int .i64 i, .int .i64 d] w fun e w' => e = .returned (.int .i64 k) ∧ ∃ q, w' = w.drewN q := by
  cases h : val m (bs.drop i) with
  | none => exact .inl ⟨rfl, fun w hc => by have := hV d i hd hi w hc; rw [h] at this; exact this⟩
  | some l =>
    obtain ⟨k, h1, h2, h3, h4⟩ := posAt hl (k := i) hi (val_pf _ _ _ h)
    exact .inr ⟨k, h1, h2, by rw [h3], fun w hc => by have := hV d i hd hi w hc; rw [h, h4] at this; exact this⟩

theorem elLoop_none {v : List Int → Option (List Int)} {f : Nat} {l : List Int} (h : v (skip l) = none) : elLoop v (f + 1) l = none := by simp [elLoop, h]
theorem elLoop_some {v : List Int → Option (List Int)} {f : Nat} {l l1 : List Int} (h : v (skip l) = some l1) : elLoop v (f + 1) l = match skip l1 with
      | [] => none
      | c :: r => if c = 93 then some r else if c = 44 then elLoop v f r else none := by
  simp only [elLoop, h]
  cases skip l1 <;> rfl
theorem elems_close {v : List Int → Option (List Int)} {l r : List Int} (h : skip l = 93 :: r) : elems v l = some r := by simp [elems, h]
theorem elems_go {v : List Int → Option (List Int)} {l l1 : List Int} (h : skip l = l1) (h2 : ∀ r, ¬ l1 = 93 :: r) : elems v l = elLoop v (l1.length + 1) l1 := by
  cases l1 with
  | nil => simp [elems, h]
  | cons c r =>
    have : ¬ c = 93 := by rintro rfl; exact h2 r rfl
    simp [elems, h, this]

def ElP (n : Nat) (o : Option (List Int)) (w : World) (e : Ending) (w' : World) : Prop := ∃ cn : Int, e = .returned (.tuple #[.int .i64 (idx n o), .int .i64 cn]) ∧ ∃ q, w' = w.drewN q

set_option maxRecDepth 100000 in
set_option maxHeartbeats 4000000 in
theorem els13 (g n cp m d i : Nat) (bs : List Int) (w : World) (hc : Cel w g bs) (hl : bs.length = n) (hn : n ≤ 1048576) (hi : i < n)
    (hV : ValC g n cp bs m) (hdm : d + m = 10000) :
    Calls Try.prog 13 #[.slice (some ⟨g, 0, none⟩) n cp, .int .i64 i, .int .i64 d] w (ElP n (elems (val m) (bs.drop (i + 1))) w) := by
  have HL : Hid (bs.length = n) := hl
  have HV : Hid _ := hV
  have HDM : Hid _ := hdm
  obtain ⟨k0, hik0, hk0, hs0, C0⟩ := skipAt g n cp (i + 1) bs hl hn (by omega)
  clear hl hV hdm
  have HC0 : Hid _ := C0
  clear C0
  cases hd0 : bs.drop k0 with
  | nil =>
    have hkn : n ≤ k0 := by have := drop_nil hd0; rw [HL.out] at this; exact this
    have hlt : ¬ k0 < n := by omega
    have HR : Hid (elems (val m) (bs.drop (i + 1)) = elLoop (val m) 1 (bs.drop k0)) := by
      rw [elems_go hs0 (by intro r; rw [hd0]; simp)]; rw [hd0]; exact rfl
    clear hd0 hs0
    go_enter Try.func13, Try.ntmps13
    go_wp2_with (go_at_call 9; refine (HC0.out _ hc).mono ?_; rintro e w' ⟨rfl, hw'⟩; rw [hw']; clear hw' w')
    go_loopw [1, 8] (fun v cv wr => ∃ k f cn : Nat, v = .int .i64 k ∧ cv = .int .i64 cn ∧ cn ≤ k ∧ k ≤ n ∧ n - k < f ∧ elLoop (val m) f (bs.drop k) = elems (val m) (bs.drop (i + 1)) ∧ ∃ q, wr = w.drewN q) (fun v _ _ => n - (intOf v).toNat)
    case atStart => exact ⟨k0, 1, 0, rfl, rfl, by omega, hk0, by omega, HR.out.symm, 0, rfl⟩
    case round =>
      obtain ⟨k, f, cn, rfl, rfl, hcn, hk, hf, he, q, hwr⟩ := hrel
      subst hwr
      obtain ⟨f, rfl⟩ : ∃ f', f = f' + 1 := ⟨f - 1, by omega⟩
      obtain ⟨k1, hkk1, hk1, hs1, C1⟩ := skipAt g n cp k bs HL.out hn hk
      have HC1 : Hid _ := C1
      clear C1
      have HE : Hid _ := he
      clear he
      have hge1 : decide ((0 : Int) ≤ (k1 : Int)) = true := by simp
      rcases valAt HV.out d k1 HDM.out HL.out hk1 with ⟨hv, C2⟩ | ⟨k2, hk12, hk2, hv, C2⟩
      · have HC2 : Hid _ := C2
        clear C2
        have HQ : Hid (idx n (elems (val m) (bs.drop (i + 1))) = -1) := by rw [← HE.out, elLoop_none (by rw [hs1]; exact hv)]; exact rfl
        clear hv hs1
        go_wp2_with fail
        go_at_call 9
        refine (HC1.out _ (hc.drewN _)).mono ?_
        rintro e w' ⟨rfl, hw'⟩
        rw [hw']
        clear hw' w'
        go_wp2_with fail
        go_at_call 8
        refine (HC2.out _ (hc.drewN _)).mono ?_
        rintro e w' ⟨rfl, q2, hw'⟩
        rw [hw']
        clear hw' w'
        go_wp2_with fail
        go_ret2
        exact ⟨_, by rw [HQ.out]; rfl, _, rfl⟩
      · have HC2 : Hid _ := C2
        clear C2
        obtain ⟨k3, hkk3, hk3, hs3, C3⟩ := skipAt g n cp k2 bs HL.out hn hk2
        have HC3 : Hid _ := C3
        clear C3
        have HQ1 : elems (val m) (bs.drop (i + 1)) = match bs.drop k3 with
          | [] => none
          | c :: r => if c = 93 then some r else if c = 44 then elLoop (val m) f r else none := by
          rw [← HE.out, elLoop_some (by rw [hs1]; exact hv), hs3]
        clear hv hs1 hs3
        have HQ2 : Hid _ := HQ1
        clear HQ1
        go_wp2_with fail
        go_at_call 9
        refine (HC1.out _ (hc.drewN _)).mono ?_
        rintro e w' ⟨rfl, hw'⟩
        rw [hw']
        clear hw' w'
        go_wp2_with fail
        go_at_call 8
        refine (HC2.out _ (hc.drewN _)).mono ?_
        rintro e w' ⟨rfl, q2, hw'⟩
        rw [hw']
        clear hw' w'
        go_wp2_with fail
        go_at_call 9
        refine (HC3.out _ (hc.drewN _)).mono ?_
        rintro e w' ⟨rfl, hw'⟩
        rw [hw']
        clear hw' w'
        have HQ1 := HQ2.out
        clear HQ2
        cases hd3 : bs.drop k3 with
        | nil =>
          have hkn : n ≤ k3 := by have := drop_nil hd3; rw [HL.out] at this; exact this
          have hge3 : decide (n ≤ k3) = true := by simp; omega
          rw [hd3] at HQ1
          have HQ : Hid (idx n (elems (val m) (bs.drop (i + 1))) = -1) := by rw [HQ1]; exact rfl
          clear HQ1 hd3
          go_wp2_with fail
          go_ret2
          exact ⟨_, by rw [HQ.out]; rfl, _, rfl⟩
        | cons c r =>
          obtain ⟨-, hlt3, hdr3⟩ := drop_at hd3
          rw [HL.out] at hlt3
          have cK := hc.rd hd3
          have hge3 : decide (n ≤ k3) = false := by simp; omega
          rw [hd3] at HQ1
          simp only at HQ1
          by_cases h93 : c = 93
          · subst h93
            have HQ : Hid (idx n (elems (val m) (bs.drop (i + 1))) = ((k3 + 1 : Nat) : Int)) := by
              rw [HQ1, if_pos rfl, ← hdr3, idx_some n (k3 + 1)]
              exact rfl
              rw [List.length_drop, HL.out]; omega
            clear HQ1 hd3 hdr3
            go_wp2_with fail
            go_ret2
            exact ⟨_, by rw [HQ.out]; go_num, _, rfl⟩
          · have h93' : (c == 93) = false := by simpa using h93
            rw [if_neg h93] at HQ1
            by_cases h44 : c = 44
            · subst h44
              rw [if_pos rfl, ← hdr3] at HQ1
              have HQ : Hid _ := HQ1
              clear HQ1 hd3 hdr3
              go_wp2_with fail
              refine ⟨⟨k3 + 1, f, cn + 1, by go_num, by go_num, by omega, by omega, by omega, HQ.out.symm, _, rfl⟩, ?_⟩
              simp [intOf]; omega
            · have h44' : (c != 44) = true := by simpa using h44
              rw [if_neg h44] at HQ1
              have HQ : Hid (idx n (elems (val m) (bs.drop (i + 1))) = -1) := by rw [HQ1]; exact rfl
              clear HQ1 hd3 hdr3
              go_wp2_with fail
              go_ret2
              exact ⟨_, by rw [HQ.out]; rfl, _, rfl⟩
  | cons c0 r0 =>
    obtain ⟨-, hlt, hdr0⟩ := drop_at hd0
    rw [HL.out] at hlt
    have cK0 := hc.rd hd0
    by_cases hz : c0 = 93
    · subst hz
      have HR : Hid (idx n (elems (val m) (bs.drop (i + 1))) = ((k0 + 1 : Nat) : Int)) := by
        rw [elems_close (hs0.trans hd0), ← hdr0, idx_some n (k0 + 1)]
        exact rfl
        rw [List.length_drop, HL.out]; omega
      clear hd0 hdr0 hs0
      go_enter Try.func13, Try.ntmps13
      go_wp2_with (go_at_call 9; refine (HC0.out _ hc).mono ?_; rintro e w' ⟨rfl, hw'⟩; rw [hw']; clear hw' w')
      go_ret2
      exact ⟨0, by rw [HR.out]; go_num, 0, rfl⟩
    · have hz' : (c0 == 93) = false := by simpa using hz
      have HR : Hid (elems (val m) (bs.drop (i + 1)) = elLoop (val m) (r0.length + 2) (bs.drop k0)) := by
        rw [elems_go hs0 (by intro r; rw [hd0]; intro h; exact hz (List.cons.inj h).1)]; rw [hd0]; exact rfl
      have HF : Hid (n - k0 < r0.length + 2) := by
        have := congrArg List.length hd0
        rw [List.length_drop, HL.out] at this
        simp at this
        show _ < _
        omega
      clear hd0 hdr0 hs0
      go_enter Try.func13, Try.ntmps13
      go_wp2_with (go_at_call 9; refine (HC0.out _ hc).mono ?_; rintro e w' ⟨rfl, hw'⟩; rw [hw']; clear hw' w')
      go_loopw [1, 8] (fun v cv wr => ∃ k f cn : Nat, v = .int .i64 k ∧ cv = .int .i64 cn ∧ cn ≤ k ∧ k ≤ n ∧ n - k < f ∧ elLoop (val m) f (bs.drop k) = elems (val m) (bs.drop (i + 1)) ∧ ∃ q, wr = w.drewN q) (fun v _ _ => n - (intOf v).toNat)
      case atStart => exact ⟨k0, r0.length + 2, 0, rfl, rfl, by omega, hk0, HF.out, HR.out.symm, 0, rfl⟩
      case round =>
        obtain ⟨k, f, cn, rfl, rfl, hcn, hk, hf, he, q, hwr⟩ := hrel
        subst hwr
        obtain ⟨f, rfl⟩ : ∃ f', f = f' + 1 := ⟨f - 1, by omega⟩
        obtain ⟨k1, hkk1, hk1, hs1, C1⟩ := skipAt g n cp k bs HL.out hn hk
        have HC1 : Hid _ := C1
        clear C1
        have HE : Hid _ := he
        clear he
        have hge1 : decide ((0 : Int) ≤ (k1 : Int)) = true := by simp
        rcases valAt HV.out d k1 HDM.out HL.out hk1 with ⟨hv, C2⟩ | ⟨k2, hk12, hk2, hv, C2⟩
        · have HC2 : Hid _ := C2
          clear C2
          have HQ : Hid (idx n (elems (val m) (bs.drop (i + 1))) = -1) := by rw [← HE.out, elLoop_none (by rw [hs1]; exact hv)]; exact rfl
          clear hv hs1
          go_wp2_with fail
          go_at_call 9
          refine (HC1.out _ (hc.drewN _)).mono ?_
          rintro e w' ⟨rfl, hw'⟩
          rw [hw']
          clear hw' w'
          go_wp2_with fail
          go_at_call 8
          refine (HC2.out _ (hc.drewN _)).mono ?_
          rintro e w' ⟨rfl, q2, hw'⟩
          rw [hw']
          clear hw' w'
          go_wp2_with fail
          go_ret2
          exact ⟨_, by rw [HQ.out]; rfl, _, rfl⟩
        · have HC2 : Hid _ := C2
          clear C2
          obtain ⟨k3, hkk3, hk3, hs3, C3⟩ := skipAt g n cp k2 bs HL.out hn hk2
          have HC3 : Hid _ := C3
          clear C3
          have HQ1 : elems (val m) (bs.drop (i + 1)) = match bs.drop k3 with
            | [] => none
            | c :: r => if c = 93 then some r else if c = 44 then elLoop (val m) f r else none := by
            rw [← HE.out, elLoop_some (by rw [hs1]; exact hv), hs3]
          clear hv hs1 hs3
          have HQ2 : Hid _ := HQ1
          clear HQ1
          go_wp2_with fail
          go_at_call 9
          refine (HC1.out _ (hc.drewN _)).mono ?_
          rintro e w' ⟨rfl, hw'⟩
          rw [hw']
          clear hw' w'
          go_wp2_with fail
          go_at_call 8
          refine (HC2.out _ (hc.drewN _)).mono ?_
          rintro e w' ⟨rfl, q2, hw'⟩
          rw [hw']
          clear hw' w'
          go_wp2_with fail
          go_at_call 9
          refine (HC3.out _ (hc.drewN _)).mono ?_
          rintro e w' ⟨rfl, hw'⟩
          rw [hw']
          clear hw' w'
          have HQ1 := HQ2.out
          clear HQ2
          cases hd3 : bs.drop k3 with
          | nil =>
            have hkn : n ≤ k3 := by have := drop_nil hd3; rw [HL.out] at this; exact this
            have hge3 : decide (n ≤ k3) = true := by simp; omega
            rw [hd3] at HQ1
            have HQ : Hid (idx n (elems (val m) (bs.drop (i + 1))) = -1) := by rw [HQ1]; exact rfl
            clear HQ1 hd3
            go_wp2_with fail
            go_ret2
            exact ⟨_, by rw [HQ.out]; rfl, _, rfl⟩
          | cons c r =>
            obtain ⟨-, hlt3, hdr3⟩ := drop_at hd3
            rw [HL.out] at hlt3
            have cK := hc.rd hd3
            have hge3 : decide (n ≤ k3) = false := by simp; omega
            rw [hd3] at HQ1
            simp only at HQ1
            by_cases h93 : c = 93
            · subst h93
              have HQ : Hid (idx n (elems (val m) (bs.drop (i + 1))) = ((k3 + 1 : Nat) : Int)) := by
                rw [HQ1, if_pos rfl, ← hdr3, idx_some n (k3 + 1)]
                exact rfl
                rw [List.length_drop, HL.out]; omega
              clear HQ1 hd3 hdr3
              go_wp2_with fail
              go_ret2
              exact ⟨_, by rw [HQ.out]; go_num, _, rfl⟩
            · have h93' : (c == 93) = false := by simpa using h93
              rw [if_neg h93] at HQ1
              by_cases h44 : c = 44
              · subst h44
                rw [if_pos rfl, ← hdr3] at HQ1
                have HQ : Hid _ := HQ1
                clear HQ1 hd3 hdr3
                go_wp2_with fail
                refine ⟨⟨k3 + 1, f, cn + 1, by go_num, by go_num, by omega, by omega, by omega, HQ.out.symm, _, rfl⟩, ?_⟩
                simp [intOf]; omega
              · have h44' : (c != 44) = true := by simpa using h44
                rw [if_neg h44] at HQ1
                have HQ : Hid (idx n (elems (val m) (bs.drop (i + 1))) = -1) := by rw [HQ1]; exact rfl
                clear HQ1 hd3 hdr3
                go_wp2_with fail
                go_ret2
                exact ⟨_, by rw [HQ.out]; rfl, _, rfl⟩
end Go.Proofs.Qxb6612399a
