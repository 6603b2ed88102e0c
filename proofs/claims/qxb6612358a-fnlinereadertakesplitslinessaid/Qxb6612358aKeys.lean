import Derived.Test.Qxb6612358aBox
namespace Go.Proofs.Qxb6612358a
open Go.RowKit

set_option maxHeartbeats 1000000 in
theorem same11 (a b : Option Addr) (n ca cb : Nat) (xs : List Int) (w : World) (hl : xs.length = n) (hn : n ≤ 1048576) (ha : Ints w a .u8 xs) (hb : Ints w b .u8 xs) :
    Calls Try.prog 11 #[.slice a n ca, .slice b n cb] w fun e w' => e = .returned (.bool true) ∧ ∃ m, w' = w.drewN m := by
  have HL : Hid (xs.length = n) := hl
  clear hl
  go_enter Try.func11, Try.ntmps11
  go_wp2
  go_loopw [5] (fun i wr => ∃ k : Nat, k ≤ n ∧ i = .int .i64 k ∧ ∃ m, wr = w.drewN m) (fun i _ => n - (intOf i).toNat)
  case atStart => exact ⟨0, Nat.zero_le _, rfl, 0, rfl⟩
  case round =>
    obtain ⟨k, hk, rfl, m, hwr⟩ := hrel
    subst hwr
    by_cases hlt : k < n
    · have hx : xs[k]? = some (xs[k]'(by rw [HL.out]; exact hlt)) := by simp
      obtain ⟨b1, o1, rfl, c1⟩ := ha.at hx
      obtain ⟨b2, o2, rfl, c2⟩ := hb.at hx
      generalize xs[k]'(by rw [HL.out]; exact hlt) = z at c1 c2 hx
      clear hx ha hb
      go_wp2
      go_quiet (fail)
      go_wp2
      refine ⟨⟨k + 1, by omega, by go_num, _, rfl⟩, ?_⟩
      simp [intOf]; omega
    · go_wp2
      go_ret
      exact ⟨rfl, m, rfl⟩

/-- where key j begins -/
def pre (ns : List Nat) (j : Nat) : Nat := if j = 0 then 0 else ns.getD (j - 1) 0
/-- ns cuts kl bytes into keys of at least four -/
structure Valid (kl : Nat) (ns : List Nat) : Prop where
  le : ∀ j, j < ns.length → ns.getD j 0 ≤ kl
  gap : ∀ j, j < ns.length → pre ns j + 4 ≤ ns.getD j 0
  last : pre ns ns.length = kl

/-- the same, so far -/
structure Upto (kl : Nat) (ns : List Nat) : Prop where
  le : ∀ j, j < ns.length → ns.getD j 0 ≤ kl
  gap : ∀ j, j < ns.length → pre ns j + 4 ≤ ns.getD j 0

theorem getD_snoc (ns : List Nat) (x j : Nat) (h : j < ns.length) : (ns ++ [x]).getD j 0 = ns.getD j 0 := by simp only [List.getD]; rw [List.getElem?_append_left h]
theorem getD_last (ns : List Nat) (x : Nat) : (ns ++ [x]).getD ns.length 0 = x := by simp [List.getD]
theorem pre_snoc (ns : List Nat) (x j : Nat) (h : j ≤ ns.length) : pre (ns ++ [x]) j = pre ns j := by
  unfold pre
  by_cases h0 : j = 0
  · simp [h0]
  · simp only [h0, if_false]
    exact getD_snoc ns x (j - 1) (by omega)
theorem pre_last (ns : List Nat) (x : Nat) : pre (ns ++ [x]) (ns.length + 1) = x := by
  unfold pre
  simp [List.getD]
theorem pre_le {kl : Nat} {ns : List Nat} (h : Upto kl ns) : pre ns ns.length ≤ kl := by
  unfold pre
  by_cases h0 : ns.length = 0
  · simp [h0]
  · simp only [h0, if_false]
    exact h.le _ (by omega)
theorem Upto.snoc {kl x : Nat} {ns : List Nat} (h : Upto kl ns) (h1 : x ≤ kl) (h2 : pre ns ns.length + 4 ≤ x) : Upto kl (ns ++ [x]) := by
  constructor
  · intro j hj
    by_cases hjn : j < ns.length
    · rw [getD_snoc _ _ _ hjn]; exact h.le j hjn
    · obtain rfl : j = ns.length := by simp at hj; omega
      rw [getD_last]; exact h1
  · intro j hj
    by_cases hjn : j < ns.length
    · rw [getD_snoc _ _ _ hjn, pre_snoc _ _ _ (by omega)]; exact h.gap j hjn
    · obtain rfl : j = ns.length := by simp at hj; omega
      rw [getD_last, pre_snoc _ _ _ (Nat.le_refl _)]; exact h2

/-- what ValidKeys' answer tells -/
def Told (kl : Nat) (es : List Int) (e : Ending) : Prop := e = .returned (.bool false) ∨ (e = .returned (.bool true) ∧ ∃ ns : List Nat, es = ns.map (fun x : Nat => (x : Int)) ∧ Valid kl ns)

set_option maxHeartbeats 1000000 in
theorem valid8 (a b : Option Addr) (kl kc n c : Nat) (es : List Int) (w : World) (hl : es.length = n) (hn : n ≤ 1048576) (hk : kl ≤ 1048576) (hb : Ints w b .i64 es) (hwf : ∀ z ∈ es, (Lit.int .i64 z).wf = true) :
    Calls Try.prog 8 #[.slice a kl kc, .slice b n c] w fun e w' => w' = w ∧ Told kl es e := by
  have HL : Hid (es.length = n) := hl
  clear hl
  go_enter Try.func8, Try.ntmps8
  go_wp2
  go_loop [5, 6] (fun p j => ∃ ns : List Nat, ns.length ≤ n ∧ j = .int .i64 (ns.length : Int) ∧ es.take ns.length = ns.map (fun x : Nat => (x : Int)) ∧ Upto kl ns ∧ p = .int .i64 (pre ns ns.length : Int)) (fun _ j => n - (intOf j).toNat)
  case atStart => exact ⟨[], Nat.zero_le _, rfl, by simp, ⟨by simp, by simp⟩, rfl⟩
  case round =>
    obtain ⟨ns, hk', rfl, hns, hup, rfl⟩ := hrel
    have hp := pre_le hup
    by_cases hlt : ns.length < n
    · have hke : ns.length < es.length := by rw [HL.out]; exact hlt
      obtain ⟨b1, o1, rfl, c1⟩ := hb.at (i := ns.length) (z := es[ns.length]) (by simp [hke])
      have hbd := bounds_i64 (hwf es[ns.length] (List.getElem_mem hke))
      have hsn : es.take (ns.length + 1) = es.take ns.length ++ [es[ns.length]] := List.take_succ_eq_append_getElem hke
      generalize es[ns.length] = z at *
      have HS : Hid _ := hsn
      have HN : Hid _ := hns
      clear hsn hns hwf hb
      by_cases h1 : z < 0
      · go_wp2
        go_ret
        exact ⟨rfl, .inl rfl⟩
      · by_cases h2 : (kl : Int) < z
        · go_wp2
          go_ret
          exact ⟨rfl, .inl rfl⟩
        · by_cases h3 : z - (pre ns ns.length : Int) < 4
          · go_wp2
            go_ret
            exact ⟨rfl, .inl rfl⟩
          · go_wp2
            go_round
            case rel =>
              obtain ⟨x, rfl⟩ := Int.eq_ofNat_of_zero_le (Int.not_lt.1 h1)
              refine ⟨ns ++ [x], by simp; omega, by simp, ?_, hup.snoc (by omega) (by omega), ?_⟩
              · have e : (ns ++ [x]).length = ns.length + 1 := by simp
                rw [e, HS.out, HN.out]; simp
              · have e : (ns ++ [x]).length = ns.length + 1 := by simp
                rw [e, pre_last]
            case measure => simp [intOf]; omega
    · have hnl : ns.length = n := by omega
      have e : es = ns.map (fun x : Nat => (x : Int)) := by rw [← hns, hnl, ← HL.out]; simp
      have HE : Hid _ := e
      clear e hns hnl
      by_cases hq : pre ns ns.length = kl
      · have hq' : ((pre ns ns.length : Int) == (kl : Int)) = true := by simp [hq]
        have HV : Hid (Valid kl ns) := ⟨hup.le, hup.gap, hq⟩
        clear hq
        go_wp2
        go_ret
        exact ⟨rfl, .inr ⟨rfl, ns, HE.out, HV.out⟩⟩
      · have hq' : ((pre ns ns.length : Int) == (kl : Int)) = false := by simp; omega
        go_wp2
        go_ret
        exact ⟨rfl, .inl rfl⟩
end Go.Proofs.Qxb6612358a
