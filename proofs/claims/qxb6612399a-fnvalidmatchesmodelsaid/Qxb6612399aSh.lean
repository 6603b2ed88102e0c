/- feed, walked. -/
import Derived.Test.Qxb6612399aSg
namespace Go.Proofs.Qxb6612399a
open Go.RowKit
set_option linter.unusedVariables false
set_option linter.unusedSimpArgs false

theorem acc6_any (stk : List Bool) (key : Bool) (left : List Int) (hex : Nat) : ∀ l, Acc ⟨6, stk, key, left, hex⟩ l = Acc (inStr stk key) l
  | [] => rfl
  | c :: l => by
    rw [acc_cns, acc_cns]
    simp only [nxt, inStr]
    by_cases h1 : c = 34
    · cases key <;> simp [h1]
    · by_cases h2 : c = 92
      · simp [h2]
      · by_cases h3 : c < 32
        · simp [h1, h2, h3]
        · simp only [h1, h2, h3, if_false]
          exact acc6_any stk key left hex l

theorem li_114_117_101 (h) : (((({ data := #[114, 117, 101] } : ByteArray)[0]'h).toNat : Nat) : Int) = 114 := rfl
theorem le_114_117_101 : (({ data := #[114, 117, 101] } : ByteArray).extract 1 3).toList.isEmpty = false := by kernel_rfl
theorem lx_114_117_101 : (({ data := #[114, 117, 101] } : ByteArray).extract 1 3) = { data := #[117, 101] } := by kernel_rfl
theorem li_117_101 (h) : (((({ data := #[117, 101] } : ByteArray)[0]'h).toNat : Nat) : Int) = 117 := rfl
theorem le_117_101 : (({ data := #[117, 101] } : ByteArray).extract 1 2).toList.isEmpty = false := by kernel_rfl
theorem lx_117_101 : (({ data := #[117, 101] } : ByteArray).extract 1 2) = { data := #[101] } := by kernel_rfl
theorem li_101 (h) : (((({ data := #[101] } : ByteArray)[0]'h).toNat : Nat) : Int) = 101 := rfl
theorem le_101 : (({ data := #[101] } : ByteArray).extract 1 1).toList.isEmpty = true := by kernel_rfl
theorem lx_101 : (({ data := #[101] } : ByteArray).extract 1 1) = { data := #[] } := by kernel_rfl
theorem li_97_108_115_101 (h) : (((({ data := #[97, 108, 115, 101] } : ByteArray)[0]'h).toNat : Nat) : Int) = 97 := rfl
theorem le_97_108_115_101 : (({ data := #[97, 108, 115, 101] } : ByteArray).extract 1 4).toList.isEmpty = false := by kernel_rfl
theorem lx_97_108_115_101 : (({ data := #[97, 108, 115, 101] } : ByteArray).extract 1 4) = { data := #[108, 115, 101] } := by kernel_rfl
theorem li_108_115_101 (h) : (((({ data := #[108, 115, 101] } : ByteArray)[0]'h).toNat : Nat) : Int) = 108 := rfl
theorem le_108_115_101 : (({ data := #[108, 115, 101] } : ByteArray).extract 1 3).toList.isEmpty = false := by kernel_rfl
theorem lx_108_115_101 : (({ data := #[108, 115, 101] } : ByteArray).extract 1 3) = { data := #[115, 101] } := by kernel_rfl
theorem li_115_101 (h) : (((({ data := #[115, 101] } : ByteArray)[0]'h).toNat : Nat) : Int) = 115 := rfl
theorem le_115_101 : (({ data := #[115, 101] } : ByteArray).extract 1 2).toList.isEmpty = false := by kernel_rfl
theorem lx_115_101 : (({ data := #[115, 101] } : ByteArray).extract 1 2) = { data := #[101] } := by kernel_rfl
theorem li_117_108_108 (h) : (((({ data := #[117, 108, 108] } : ByteArray)[0]'h).toNat : Nat) : Int) = 117 := rfl
theorem le_117_108_108 : (({ data := #[117, 108, 108] } : ByteArray).extract 1 3).toList.isEmpty = false := by kernel_rfl
theorem lx_117_108_108 : (({ data := #[117, 108, 108] } : ByteArray).extract 1 3) = { data := #[108, 108] } := by kernel_rfl
theorem li_108_108 (h) : (((({ data := #[108, 108] } : ByteArray)[0]'h).toNat : Nat) : Int) = 108 := rfl
theorem le_108_108 : (({ data := #[108, 108] } : ByteArray).extract 1 2).toList.isEmpty = false := by kernel_rfl
theorem lx_108_108 : (({ data := #[108, 108] } : ByteArray).extract 1 2) = { data := #[108] } := by kernel_rfl
theorem li_108 (h) : (((({ data := #[108] } : ByteArray)[0]'h).toNat : Nat) : Int) = 108 := rfl
theorem le_108 : (({ data := #[108] } : ByteArray).extract 1 1).toList.isEmpty = true := by kernel_rfl
theorem lx_108 : (({ data := #[108] } : ByteArray).extract 1 1) = { data := #[] } := by kernel_rfl
theorem Lft.opens {sb : ByteArray} {l : List Int} (h : Lft sb l) : ∃ a r, l = a :: r ∧ 1 ≤ sb.size ∧ sb.size ≤ 4 ∧ (∀ h, (((sb[0]'h).toNat : Nat) : Int) = a) ∧ (sb.extract 1 sb.size).toList.isEmpty = r.isEmpty ∧ (r ≠ [] → Lft (sb.extract 1 sb.size) r) := by
  rcases h with ⟨rfl, rfl⟩ | ⟨rfl, rfl⟩ | ⟨rfl, rfl⟩ | ⟨rfl, rfl⟩ | ⟨rfl, rfl⟩ | ⟨rfl, rfl⟩ | ⟨rfl, rfl⟩ | ⟨rfl, rfl⟩ | ⟨rfl, rfl⟩
  · exact ⟨114, [117, 101], rfl, by decide, by decide, li_114_117_101, le_114_117_101, fun hr => by first | (exact absurd rfl hr) | (rw [show ({ data := #[114, 117, 101] } : ByteArray).size = 3 from rfl, lx_114_117_101]; unfold Lft; simp)⟩
  · exact ⟨117, [101], rfl, by decide, by decide, li_117_101, le_117_101, fun hr => by first | (exact absurd rfl hr) | (rw [show ({ data := #[117, 101] } : ByteArray).size = 2 from rfl, lx_117_101]; unfold Lft; simp)⟩
  · exact ⟨101, [], rfl, by decide, by decide, li_101, le_101, fun hr => by first | (exact absurd rfl hr) | (rw [show ({ data := #[101] } : ByteArray).size = 1 from rfl, lx_101]; unfold Lft; simp)⟩
  · exact ⟨97, [108, 115, 101], rfl, by decide, by decide, li_97_108_115_101, le_97_108_115_101, fun hr => by first | (exact absurd rfl hr) | (rw [show ({ data := #[97, 108, 115, 101] } : ByteArray).size = 4 from rfl, lx_97_108_115_101]; unfold Lft; simp)⟩
  · exact ⟨108, [115, 101], rfl, by decide, by decide, li_108_115_101, le_108_115_101, fun hr => by first | (exact absurd rfl hr) | (rw [show ({ data := #[108, 115, 101] } : ByteArray).size = 3 from rfl, lx_108_115_101]; unfold Lft; simp)⟩
  · exact ⟨115, [101], rfl, by decide, by decide, li_115_101, le_115_101, fun hr => by first | (exact absurd rfl hr) | (rw [show ({ data := #[115, 101] } : ByteArray).size = 2 from rfl, lx_115_101]; unfold Lft; simp)⟩
  · exact ⟨117, [108, 108], rfl, by decide, by decide, li_117_108_108, le_117_108_108, fun hr => by first | (exact absurd rfl hr) | (rw [show ({ data := #[117, 108, 108] } : ByteArray).size = 3 from rfl, lx_117_108_108]; unfold Lft; simp)⟩
  · exact ⟨108, [108], rfl, by decide, by decide, li_108_108, le_108_108, fun hr => by first | (exact absurd rfl hr) | (rw [show ({ data := #[108, 108] } : ByteArray).size = 2 from rfl, lx_108_108]; unfold Lft; simp)⟩
  · exact ⟨108, [], rfl, by decide, by decide, li_108, le_108, fun hr => by first | (exact absurd rfl hr) | (rw [show ({ data := #[108] } : ByteArray).size = 1 from rfl, lx_108]; unfold Lft; simp)⟩
theorem e7 {c : Int} (v : Int) (h : (c == v) = true) (hv : isEsc v = true) : isEsc c = true := by
  rw [eq_of_beq h]; exact hv
theorem nx7y {c : Int} (stk : List Bool) (key : Bool) (left : List Int) (hex : Nat) (h : isEsc c = true) : nxt ⟨7, stk, key, left, hex⟩ c = some (inStr stk key) := by simp [nxt, h]
theorem nx7u {c : Int} (stk : List Bool) (key : Bool) (left : List Int) (hex : Nat) (h : (c == 117) = true) : nxt ⟨7, stk, key, left, hex⟩ c = some ⟨8, stk, key, [], 4⟩ := by
  rw [eq_of_beq h]; simp [nxt, isEsc]
theorem nx7n {c : Int} (stk : List Bool) (key : Bool) (left : List Int) (hex : Nat) (h1 : (c == 34) = false) (h2 : (c == 92) = false) (h3 : (c == 47) = false) (h4 : (c == 98) = false) (h5 : (c == 102) = false) (h6 : (c == 110) = false) (h7 : (c == 114) = false) (h8 : (c == 116) = false) (h9 : (c == 117) = false) : nxt ⟨7, stk, key, left, hex⟩ c = none := by
  simp only [nxt, isEsc, h1, h2, h3, h4, h5, h6, h7, h8, Bool.or_false, Bool.false_eq_true, if_false]
  rw [if_neg (by simpa using h9)]
theorem Ext.hx (stk : List Bool) (k : Bool) (h : Nat) (lv : Value) (h2 : stk.length ≤ 10000) (h3 : 1 ≤ h) (h4 : h ≤ 4) : Ext ⟨8, stk, k, [], h⟩ (.bool k) lv (.int .i64 (h : Int)) := by
  refine ⟨fun a b => rfl, fun a => ?_, fun a => ⟨rfl, h3, h4⟩, fun a => ?_, h2, ?_⟩ <;> simp at *

set_option maxRecDepth 10000 in
set_option maxHeartbeats 16000000 in
theorem feed11 (B : Nat) (w0 w : World) (t g n cp : Nat) (bs : List Int) (s0 : S) (hc : Cel w0 g bs) (hgB : g < B) (hl : bs.length = n) (hn : n ≤ 1048576) (hS : Sc B w0 w t s0) :
    Calls Try.prog 11 #[.pointer (some ⟨t, 0, none⟩), .slice (some ⟨g, 0, none⟩) n cp] w (FeedP B w0 t (Acc s0 bs)) := by
  have hnot : ∀ (x : Bool) (w : World), (Op.unary .not (.bool x)).run Try.prog w = .ok (.bool (!x)) w := fun _ _ => rfl
  have HL : Hid (bs.length = n) := hl
  have HS : Hid (Sc B w0 w t s0) := hS
  clear hl hS
  generalize hA0 : Acc s0 bs = A0
  have HA0 : Hid (Acc s0 bs = A0) := hA0
  clear hA0
  go_enter Try.func11, Try.ntmps11
  go_wp2
  go_loopg [5] (nm n 0 s0) (FRel B w0 t n bs A0)
  case atStart => exact ⟨0, s0, rfl, by omega, HS.out, by rw [← HA0.out]; rfl, rfl⟩
  case round =>
    obtain ⟨k, s, rfl, hk, hSc, hA, hq⟩ := hrel
    subst hq
    obtain ⟨kv, lv, hv, hE, o, dv, x, y, hAt⟩ := hSc
    have HE : Hid (Ext s kv lv hv) := hE
    have HA : Hid (A0 = Acc s (bs.drop k)) := hA
    have HT : Hid (At B w0 wr t s.st s.stk o dv kv lv hv (.int .i64 x) (.int .i64 y)) := hAt
    clear hE hA hAt
    by_cases hlt : k < n
    · obtain ⟨c, r, hd⟩ : ∃ c r, bs.drop k = c :: r := ⟨_, _, List.drop_eq_getElem_cons (by rw [HL.out]; exact hlt)⟩
      obtain ⟨-, -, hdr⟩ := drop_at hd
      have hcr := hc.below HT.out.bel hgB
      have cK := hcr.rd hd
      have HCr : Hid (Cel wr g bs) := hcr
      have c0 := HT.out.raw.c0
      have c5 := HT.out.raw.c5
      have c6 := HT.out.raw.c6
      have c7 := HT.out.raw.c7
      have f0 := HT.out.raw.fz 0
      have f5 := HT.out.raw.fz 5
      have f6 := HT.out.raw.fz 6
      have f7 := HT.out.raw.fz 7
      have HD : Hid (bs.drop k = c :: r) := hd
      have HDR : Hid (bs.drop (k + 1) = r) := hdr
      have hr : s.stk.length ≤ 10000 := HE.out.2.2.2.2.1
      have hMS : ∀ w', StepP B w0 t (nxt s c) w' → FMid B w0 t n bs A0 (nm n k s) (.int .i64 (k : Int)) w' := fun w' h => mid_step HA.out HD.out HDR.out hlt h
      have HMS : Hid _ := hMS
      clear hd hdr hcr hMS
      go_upto_block 2 with fail
      go_cut [5] from 7 to 180 (FMid B w0 t n bs A0 (nm n k s))
      case first =>
        clear cK
        by_cases h10 : 10 ≤ s.st
        · as_aux_lemma =>
            have z0 : ((s.st : Int) == 0) = false := by simp; omega
            have z1 : ((s.st : Int) == 1) = false := by simp; omega
            have z2 : ((s.st : Int) == 2) = false := by simp; omega
            have z3 : ((s.st : Int) == 3) = false := by simp; omega
            have z4 : ((s.st : Int) == 4) = false := by simp; omega
            have z5 : ((s.st : Int) == 5) = false := by simp; omega
            have z6 : ((s.st : Int) == 6) = false := by simp; omega
            have z7 : ((s.st : Int) == 7) = false := by simp; omega
            have z8 : ((s.st : Int) == 8) = false := by simp; omega
            have z9 : ((s.st : Int) == 9) = false := by simp; omega
            go_wp2_with fail
            go_at_call 26
            refine (num26 B w0 _ t s h10 c k o dv kv lv hv x y (by omega) HT.out HE.out).mono ?_
            intro e w2 hp
            obtain ⟨v, rfl, hm⟩ := mid_num HA.out HD.out HDR.out hlt h10 hp
            have HP : Hid _ := hm
            clear hp hm
            go_wp2
            go_meet
            case rel => exact HP.out
        · obtain ⟨st, stk, key, left, hex⟩ := s
          simp only at *
          have h18 : st = 0 ∨ st = 1 ∨ st = 2 ∨ st = 3 ∨ st = 4 ∨ st = 5 ∨ st = 6 ∨ st = 7 ∨ st = 8 ∨ st = 9 := by omega
          clear h10
          rcases h18 with rfl | rfl | rfl | rfl | rfl | rfl | rfl | rfl | rfl | rfl
          · as_aux_lemma =>
              go_wp2_with fail
              go_at_call 20
              refine (sp20 _ _).mono ?_
              rintro e w' ⟨rfl, hw'⟩
              rw [hw']
              clear hw' w'
              cases hsp : isSp c
              · have HN : Hid (nxt ⟨0, stk, key, left, hex⟩ c = bgn stk c) := by show nxt _ _ = _; simp [nxt, hsp]
                go_wp2_with fail
                go_at_call 22
                refine (begin22 B w0 _ t _ stk c o dv kv lv hv x y HT.out hr).mono ?_
                rintro e w2 ⟨rfl, hp⟩
                rw [← HN.out] at hp
                have HP : Hid _ := HMS.out w2 hp
                clear hp
                go_wp2
                go_meet
                case rel => exact HP.out
              · have HN : Hid (nxt ⟨0, stk, key, left, hex⟩ c = some ⟨0, stk, key, left, hex⟩) := by show nxt _ _ = _; simp [nxt, hsp]
                have HQ : Hid (A0 = Acc ⟨0, stk, key, left, hex⟩ (bs.drop (k + 1))) := by
                  rw [HA.out, HD.out, acc_cns, HN.out, HDR.out]; exact rfl
                go_wp2
                go_roundg (nm n (k + 1) ⟨0, stk, key, left, hex⟩)
                case measure => exact nm_lt n k k _ _ (Nat.le_refl _) (by omega)
                case rel => exact ⟨k + 1, ⟨0, stk, key, left, hex⟩, by go_num, by omega, ⟨kv, lv, hv, HE.out, o, dv, x, y, HT.out⟩, HQ.out, rfl⟩
          · as_aux_lemma =>
              go_wp2_with fail
              go_at_call 20
              refine (sp20 _ _).mono ?_
              rintro e w' ⟨rfl, hw'⟩
              rw [hw']
              clear hw' w'
              cases hsp : isSp c
              · by_cases h93 : c = 93
                · subst h93
                  obtain ⟨b, rr, rfl⟩ : ∃ b rr, stk = b :: rr := by
                    cases stk with
                    | nil => exact absurd rfl (HE.out.2.2.2.1 (by simp))
                    | cons b rr => exact ⟨b, rr, rfl⟩
                  have HN : Hid (nxt ⟨1, b :: rr, key, left, hex⟩ 93 = some (mk 5 rr)) := by show nxt _ _ = _; simp [nxt, isSp]
                  have hr2 : rr.length ≤ 10000 := by simp at hr; omega
                  go_wp2_with fail
                  go_at_call 21
                  refine (close21 B _ t _ o dv kv lv hv _ _ b rr (by exact HT.out.raw) (by exact HT.out.stk) HT.out.hBt ⟨_, rfl⟩ ⟨_, rfl⟩ hr2).mono ?_
                  rintro e w2 ⟨rfl, hp⟩
                  obtain ⟨o2, dv2, x2, y2, h2⟩ := At.post HT.out hp
                  have HP : Hid (Sc B w0 w2 t (mk 5 rr)) := h2.step (mk 5 rr) (Ext.plain _ _ _ _ _ (by omega) (by simp) hr2)
                  have HQ : Hid (A0 = Acc (mk 5 rr) (bs.drop (k + 1))) := by
                    rw [HA.out, HD.out, acc_cns, HN.out, HDR.out]; exact rfl
                  clear hp h2
                  go_wp2
                  go_roundg (nm n (k + 1) (mk 5 rr))
                  case measure => exact nm_lt n k k _ _ (Nat.le_refl _) (by omega)
                  case rel => exact ⟨k + 1, mk 5 rr, by go_num, by omega, HP.out, HQ.out, rfl⟩
                · have h93' : (c == 93) = false := by simpa using h93
                  have HN : Hid (nxt ⟨1, stk, key, left, hex⟩ c = bgn stk c) := by show nxt _ _ = _; simp [nxt, hsp, h93]
                  go_wp2_with fail
                  go_at_call 22
                  refine (begin22 B w0 _ t _ stk c o dv kv lv hv x y HT.out hr).mono ?_
                  rintro e w2 ⟨rfl, hp⟩
                  rw [← HN.out] at hp
                  have HP : Hid _ := HMS.out w2 hp
                  clear hp
                  go_wp2
                  go_meet
                  case rel => exact HP.out
              · have HN : Hid (nxt ⟨1, stk, key, left, hex⟩ c = some ⟨1, stk, key, left, hex⟩) := by show nxt _ _ = _; simp [nxt, hsp]
                have HQ : Hid (A0 = Acc ⟨1, stk, key, left, hex⟩ (bs.drop (k + 1))) := by
                  rw [HA.out, HD.out, acc_cns, HN.out, HDR.out]; exact rfl
                go_wp2
                go_roundg (nm n (k + 1) ⟨1, stk, key, left, hex⟩)
                case measure => exact nm_lt n k k _ _ (Nat.le_refl _) (by omega)
                case rel => exact ⟨k + 1, ⟨1, stk, key, left, hex⟩, by go_num, by omega, ⟨kv, lv, hv, HE.out, o, dv, x, y, HT.out⟩, HQ.out, rfl⟩
          · as_aux_lemma =>
              go_wp2_with fail
              go_at_call 20
              refine (sp20 _ _).mono ?_
              rintro e w' ⟨rfl, hw'⟩
              rw [hw']
              clear hw' w'
              cases hsp : isSp c
              · by_cases h34 : c = 34
                · subst h34
                  have HN : Hid (nxt ⟨2, stk, key, left, hex⟩ 34 = some (inStr stk true)) := by show nxt _ _ = _; simp [nxt, isSp]
                  go_wp2
                  go_meet
                  case rel =>
                    refine HMS.out _ ?_
                    rw [HN.out]
                    exact ((HT.out.s0 6).s5 (.bool true)).step (inStr stk true) (Ext.str _ _ _ _ hr)
                · have h34' : (c == 34) = false := by simpa using h34
                  by_cases h125 : c = 125
                  · subst h125
                    obtain ⟨b, rr, rfl⟩ : ∃ b rr, stk = b :: rr := by
                      cases stk with
                      | nil => exact absurd rfl (HE.out.2.2.2.1 (by simp))
                      | cons b rr => exact ⟨b, rr, rfl⟩
                    have HN : Hid (nxt ⟨2, b :: rr, key, left, hex⟩ 125 = some (mk 5 rr)) := by show nxt _ _ = _; simp [nxt, isSp]
                    have hr2 : rr.length ≤ 10000 := by simp at hr; omega
                    go_wp2_with fail
                    go_at_call 21
                    refine (close21 B _ t _ o dv kv lv hv _ _ b rr (by exact HT.out.raw) (by exact HT.out.stk) HT.out.hBt ⟨_, rfl⟩ ⟨_, rfl⟩ hr2).mono ?_
                    rintro e w2 ⟨rfl, hp⟩
                    obtain ⟨o2, dv2, x2, y2, h2⟩ := At.post HT.out hp
                    have HP : Hid (FMid B w0 t n bs A0 (nm n k ⟨2, b :: rr, key, left, hex⟩) (.int .i64 (k : Int)) w2) := HMS.out w2 (by rw [HN.out]; exact h2.step (mk 5 rr) (Ext.plain _ _ _ _ _ (by omega) (by simp) hr2))
                    clear hp h2
                    go_wp2
                    go_meet
                    case rel => exact HP.out
                  · have h125' : (c == 125) = false := by simpa using h125
                    have HN : Hid (nxt ⟨2, stk, key, left, hex⟩ c = none) := by show nxt _ _ = _; simp [nxt, hsp, h34, h125]
                    go_wp2
                    go_meet
                    case rel =>
                      refine HMS.out _ ?_
                      rw [HN.out]
                      exact (HT.out.s0 18).bad
              · have HN : Hid (nxt ⟨2, stk, key, left, hex⟩ c = some ⟨2, stk, key, left, hex⟩) := by show nxt _ _ = _; simp [nxt, hsp]
                go_wp2
                go_meet
                case rel =>
                  refine HMS.out _ ?_
                  rw [HN.out]
                  exact HT.out.step ⟨2, stk, key, left, hex⟩ HE.out
          · as_aux_lemma =>
              go_wp2_with fail
              go_at_call 20
              refine (sp20 _ _).mono ?_
              rintro e w' ⟨rfl, hw'⟩
              rw [hw']
              clear hw' w'
              cases hsp : isSp c
              · by_cases h34 : c = 34
                · subst h34
                  have HN : Hid (nxt ⟨3, stk, key, left, hex⟩ 34 = some (inStr stk true)) := by show nxt _ _ = _; simp [nxt, isSp]
                  go_wp2
                  go_meet
                  case rel =>
                    refine HMS.out _ ?_
                    rw [HN.out]
                    exact ((HT.out.s0 6).s5 (.bool true)).step (inStr stk true) (Ext.str _ _ _ _ hr)
                · have h34' : (c == 34) = false := by simpa using h34
                  by_cases h125 : c = 125
                  · subst h125
                    have HN : Hid (nxt ⟨3, stk, key, left, hex⟩ 125 = none) := by show nxt _ _ = _; simp [nxt, isSp]
                    go_wp2
                    go_meet
                    case rel =>
                      refine HMS.out _ ?_
                      rw [HN.out]
                      exact (HT.out.s0 18).bad
                  · have h125' : (c == 125) = false := by simpa using h125
                    have HN : Hid (nxt ⟨3, stk, key, left, hex⟩ c = none) := by show nxt _ _ = _; simp [nxt, hsp, h34]
                    go_wp2
                    go_meet
                    case rel =>
                      refine HMS.out _ ?_
                      rw [HN.out]
                      exact (HT.out.s0 18).bad
              · have HN : Hid (nxt ⟨3, stk, key, left, hex⟩ c = some ⟨3, stk, key, left, hex⟩) := by show nxt _ _ = _; simp [nxt, hsp]
                go_wp2
                go_meet
                case rel =>
                  refine HMS.out _ ?_
                  rw [HN.out]
                  exact HT.out.step ⟨3, stk, key, left, hex⟩ HE.out
          · as_aux_lemma =>
              go_wp2_with fail
              go_at_call 20
              refine (sp20 _ _).mono ?_
              rintro e w' ⟨rfl, hw'⟩
              rw [hw']
              clear hw' w'
              cases hsp : isSp c
              · by_cases h58 : c = 58
                · subst h58
                  have HN : Hid (nxt ⟨4, stk, key, left, hex⟩ 58 = some (mk 0 stk)) := by show nxt _ _ = _; simp [nxt, isSp]
                  go_wp2
                  go_meet
                  case rel =>
                    refine HMS.out _ ?_
                    rw [HN.out]
                    exact (HT.out.s0 0).step (mk 0 stk) (Ext.plain _ _ _ _ _ (by omega) (by simp) hr)
                · have h58' : (c == 58) = false := by simpa using h58
                  have HN : Hid (nxt ⟨4, stk, key, left, hex⟩ c = none) := by show nxt _ _ = _; simp [nxt, hsp, h58]
                  go_wp2
                  go_meet
                  case rel =>
                    refine HMS.out _ ?_
                    rw [HN.out]
                    exact (HT.out.s0 18).bad
              · have HN : Hid (nxt ⟨4, stk, key, left, hex⟩ c = some ⟨4, stk, key, left, hex⟩) := by show nxt _ _ = _; simp [nxt, hsp]
                go_wp2
                go_meet
                case rel =>
                  refine HMS.out _ ?_
                  rw [HN.out]
                  exact HT.out.step ⟨4, stk, key, left, hex⟩ HE.out
          · as_aux_lemma =>
              go_wp2_with fail
              go_at_call 23
              refine (follow23 B w0 _ t stk c o dv kv lv hv x y HT.out hr).mono ?_
              rintro e w2 ⟨rfl, hp⟩
              have HP : Hid _ := HMS.out w2 hp
              clear hp
              go_wp2
              go_meet
              case rel => exact HP.out
          · as_aux_lemma =>
              go_wp2_with fail
              go_at_call 24
              have hkv : kv = .bool key := HE.out.1 (Nat.le_refl 6) (by show 6 ≤ 8; omega)
              subst hkv
              refine (inStr24 B w0 _ t g n cp k bs stk key o dv lv hv x y HCr.out HL.out hn hlt HT.out hr).mono ?_
              intro e w2 hp
              rw [← show Acc ⟨6, stk, key, left, hex⟩ (bs.drop k) = Acc (inStr stk key) (bs.drop k) from acc6_any stk key left hex _] at hp
              rw [← HA.out] at hp
              obtain ⟨v, rfl, hm⟩ := mid_in (s := ⟨6, stk, key, left, hex⟩) hp
              have HP : Hid _ := hm
              clear hp hm
              go_wp2
              go_meet
              case rel => exact HP.out
          · as_aux_lemma =>
              have hkv : kv = .bool key := HE.out.1 (by show 6 ≤ 7; omega) (by show 7 ≤ 8; omega)
              subst hkv
              go_wp2
              all_goals go_meet
              all_goals refine HMS.out _ ?_
              all_goals first
                | (rw [nx7y stk key left hex (by first | exact e7 34 (by assumption) rfl | exact e7 92 (by assumption) rfl | exact e7 47 (by assumption) rfl | exact e7 98 (by assumption) rfl | exact e7 102 (by assumption) rfl | exact e7 110 (by assumption) rfl | exact e7 114 (by assumption) rfl | exact e7 116 (by assumption) rfl)]
                   exact (HT.out.s0 6).step (inStr stk key) (Ext.str _ _ _ _ hr))
                | (rw [nx7u stk key left hex (by assumption)]
                   exact ((HT.out.s0 8).s7 (.int .i64 4)).step ⟨8, stk, key, [], 4⟩ (Ext.hx _ _ 4 _ hr (by omega) (by omega)))
                | (rw [nx7n stk key left hex (by assumption) (by assumption) (by assumption) (by assumption) (by assumption) (by assumption) (by assumption) (by assumption) (by assumption)]
                   exact (HT.out.s0 18).bad)
          · as_aux_lemma =>
              have hkv : kv = .bool key := HE.out.1 (by show 6 ≤ 8; omega) (by show 8 ≤ 8; omega)
              subst hkv
              obtain ⟨hh, h1, h4⟩ : hv = .int .i64 (hex : Int) ∧ 1 ≤ hex ∧ hex ≤ 4 := HE.out.2.2.1 rfl
              subst hh
              go_wp2_with fail
              go_at_call 25
              refine (hx25 _ _).mono ?_
              rintro e w' ⟨rfl, hw'⟩
              rw [hw']
              clear hw' w'
              cases hsx : isHx c
              · have HN : Hid (nxt ⟨8, stk, key, left, hex⟩ c = none) := by show nxt _ _ = _; simp [nxt, hsx]
                go_wp2
                go_meet
                case rel =>
                  refine HMS.out _ ?_
                  rw [HN.out]
                  exact (HT.out.s0 18).bad
              · have h18 : hex = 1 ∨ hex = 2 ∨ hex = 3 ∨ hex = 4 := by omega
                clear h1 h4 c7
                rcases h18 with rfl | rfl | rfl | rfl
                · have c7 : wr.cell? ⟨t, 7, none⟩ = some (.int .i64 1) := HT.out.raw.c7
                  have HN : Hid (nxt ⟨8, stk, key, left, 1⟩ c = some (inStr stk key)) := by show nxt _ _ = _; simp [nxt, hsx]
                  go_wp2
                  go_meet
                  case rel =>
                    refine HMS.out _ ?_
                    rw [HN.out]
                    exact ((HT.out.s7 (.int .i64 0)).s0 6).step (inStr stk key) (Ext.str _ _ _ _ hr)
                · have c7 : wr.cell? ⟨t, 7, none⟩ = some (.int .i64 2) := HT.out.raw.c7
                  have HN : Hid (nxt ⟨8, stk, key, left, 2⟩ c = some ⟨8, stk, key, [], 1⟩) := by show nxt _ _ = _; simp [nxt, hsx]
                  go_wp2
                  go_meet
                  case rel =>
                    refine HMS.out _ ?_
                    rw [HN.out]
                    exact (HT.out.s7 (.int .i64 1)).step ⟨8, stk, key, [], 1⟩ (Ext.hx _ _ 1 _ hr (by omega) (by omega))
                · have c7 : wr.cell? ⟨t, 7, none⟩ = some (.int .i64 3) := HT.out.raw.c7
                  have HN : Hid (nxt ⟨8, stk, key, left, 3⟩ c = some ⟨8, stk, key, [], 2⟩) := by show nxt _ _ = _; simp [nxt, hsx]
                  go_wp2
                  go_meet
                  case rel =>
                    refine HMS.out _ ?_
                    rw [HN.out]
                    exact (HT.out.s7 (.int .i64 2)).step ⟨8, stk, key, [], 2⟩ (Ext.hx _ _ 2 _ hr (by omega) (by omega))
                · have c7 : wr.cell? ⟨t, 7, none⟩ = some (.int .i64 4) := HT.out.raw.c7
                  have HN : Hid (nxt ⟨8, stk, key, left, 4⟩ c = some ⟨8, stk, key, [], 3⟩) := by show nxt _ _ = _; simp [nxt, hsx]
                  go_wp2
                  go_meet
                  case rel =>
                    refine HMS.out _ ?_
                    rw [HN.out]
                    exact (HT.out.s7 (.int .i64 3)).step ⟨8, stk, key, [], 3⟩ (Ext.hx _ _ 3 _ hr (by omega) (by omega))
          · as_aux_lemma =>
              obtain ⟨sb, hlv, hL⟩ : ∃ sb, lv = .string sb ∧ Lft sb left := HE.out.2.1 rfl
              subst hlv
              obtain ⟨a, q, rfl, hs1, hs4, hi0, hie, hlx⟩ := hL.opens
              have HLX : Hid (q ≠ [] → Lft (sb.extract 1 sb.size) q) := hlx
              clear hL hlx
              by_cases hca : c = a
              · have z : (c == a) = true := by simpa using hca
                have z2 : (c != a) = false := by simpa using hca
                cases q with
                | nil =>
                  have hie2 : (sb.extract 1 sb.size).toList.isEmpty = true := hie
                  have HN : Hid (nxt ⟨9, stk, key, [a], hex⟩ c = some (mk 5 stk)) := by show nxt _ _ = _; simp [nxt, hca]
                  go_wp2
                  go_meet
                  case rel =>
                    refine HMS.out _ ?_
                    rw [HN.out]
                    exact ((HT.out.s6 (.string (sb.extract 1 sb.size))).s0 5).step (mk 5 stk) (Ext.plain _ _ _ _ _ (by omega) (by simp) hr)
                | cons b q =>
                  have hie2 : (sb.extract 1 sb.size).toList.isEmpty = false := hie
                  have HN : Hid (nxt ⟨9, stk, key, (a :: b :: q), hex⟩ c = some ⟨9, stk, false, b :: q, 0⟩) := by show nxt _ _ = _; simp [nxt, hca]
                  go_wp2
                  go_meet
                  case rel =>
                    refine HMS.out _ ?_
                    rw [HN.out]
                    exact (HT.out.s6 (.string (sb.extract 1 sb.size))).step ⟨9, stk, false, b :: q, 0⟩ (Ext.lit _ _ _ _ _ (HLX.out (by simp)) hr)
              · have z : (c == a) = false := by simpa using hca
                have z2 : (c != a) = true := by simpa using hca
                have HN : Hid (nxt ⟨9, stk, key, (a :: q), hex⟩ c = none) := by show nxt _ _ = _; simp [nxt, hca]
                go_wp2
                go_meet
                case rel =>
                  refine HMS.out _ ?_
                  rw [HN.out]
                  exact (HT.out.s0 18).bad
      case rest =>
        as_aux_lemma =>
          rcases hcut with ⟨⟨stk2, o2, dv2, kv2, lv2, hv2, xv2, yv2, h2⟩, ha, j, rfl⟩ | ⟨k2, s2, rfl, hk2, ⟨kv2, lv2, hv2, hE2, o2, dv2, x2, y2, h2⟩, hA2, hm2⟩
          · have c0 := h2.raw.c0
            have HB : Hid (A0 = false ∧ Below B w0 wc) := ⟨ha, h2.bel⟩
            clear h2 ha
            go_wp2
            go_ret
            exact .inl ⟨rfl, HB.out.1, HB.out.2⟩
          · have c0 := h2.raw.c0
            have z18 : ((s2.st : Int) == 18) = false := by have := hE2.2.2.2.2.2; simp; omega
            have HR2 : Hid (Sc B w0 wc t s2 ∧ A0 = Acc s2 (bs.drop k2) ∧ nm n k2 s2 < nm n k s) := ⟨⟨kv2, lv2, hv2, hE2, o2, dv2, x2, y2, h2⟩, hA2, hm2⟩
            clear h2 hE2 hA2 hm2
            go_wp2
            go_roundg (nm n k2 s2)
            case measure => exact HR2.out.2.2
            case rel => exact ⟨k2, s2, by first | rfl | (congr 1; omega), hk2, HR2.out.1, HR2.out.2.1, rfl⟩
    · have HR : Hid (A0 = Acc s []) := by
        rw [HA.out, List.drop_eq_nil_of_le (by rw [HL.out]; omega)]; exact rfl
      go_wp2
      go_ret
      exact .inr ⟨rfl, s, ⟨kv, lv, hv, HE.out, o, dv, x, y, HT.out⟩, HR.out⟩
end Go.Proofs.Qxb6612399a
