/- The spec's small functions over digits: jDigit, jDigits, jNumber, jRun, jPlain, jBare, jZeros, jCompareDigits. -/
import Derived.Test.YtbnmgopobmiadaaGreatDoorB26
import Derived.WalkLawsBesides
import Derived.WalkSpells
import Derived.Deep.Cut

set_option linter.unusedSimpArgs false
set_option linter.unusedVariables false

namespace Go.Proofs.YtbnmgopobmiadaaGreatDoor
open Go.RowKit

theorem jDigit_any (c : Nat) (w : World) (hc : c < 256) : Calls Tryz.prog 26 #[.int .u8 c] w fun e w' => e = .returned (.bool (isd c)) ∧ w = w' := by
  by_cases h1 : 48 ≤ c
  · by_cases h2 : c ≤ 57
    · have e : isd c = true := isd_iff.2 ⟨h1, h2⟩
      rw [e]
      have h1' : (48 : Int) ≤ c := by omega
      have h2' : (c : Int) ≤ 57 := by omega
      go_enter Tryz.func26, Tryz.ntmps26
      go_wp2
      go_ret
      exact ⟨rfl, rfl⟩
    · have e : isd c = false := isd_no.2 (by omega)
      rw [e]
      have h1' : (48 : Int) ≤ c := by omega
      have h2' : ¬ (c : Int) ≤ 57 := by omega
      go_enter Tryz.func26, Tryz.ntmps26
      go_wp2
      go_ret
      exact ⟨rfl, rfl⟩
  · have e : isd c = false := isd_no.2 (by omega)
    rw [e]
    have h1' : ¬ (48 : Int) ≤ c := by omega
    go_enter Tryz.func26, Tryz.ntmps26
    go_wp2
    go_ret
    exact ⟨rfl, rfl⟩

/-- a Bool and what it says if it is true -/
def SayB (P : Prop) (w : World) (e : Ending) (w' : World) : Prop := ∃ b : Bool, e = .returned (.bool b) ∧ (b = true → P) ∧ w = w'
/-- all bytes from a to b are digits -/
def Alld (s : ByteArray) (a b : Nat) : Prop := ∀ q, a ≤ q → q < b → 48 ≤ byt s q ∧ byt s q ≤ 57

set_option maxRecDepth 100000 in
theorem jDigits_any (s : ByteArray) (w : World) (hs : s.size ≤ 1000) :
    Calls Tryz.prog 27 #[.string s] w (SayB (Alld s 0 s.size ∧ 0 < s.size) w) := by
  go_enter Tryz.func27, Tryz.ntmps27
  go_wp2
  go_loop [3] (fun iv => ∃ k : Nat, k ≤ s.size ∧ iv = .int .i64 k ∧ Alld s 0 k) (fun iv => (1001 - intOf iv).toNat)
  case atStart => exact ⟨0, Nat.zero_le _, rfl, fun q h1 h2 => by omega⟩
  case round =>
    obtain ⟨k, hk, rfl, hA⟩ := hrel
    have HA := Lib.hid hA
    clear hA
    by_cases hlt : k < s.size
    · have l1 : (k : Int) < s.size := by omega
      have hb := byt_lt s k
      have hj := jDigit_any (byt s k) w hb
      rw [← byt_in hlt] at hj
      obtain ⟨c, hc⟩ : ∃ c, c = (s[k]'hlt).toNat := ⟨_, rfl⟩
      have HC : Hid (c = byt s k) := Lib.hid (hc.trans (byt_in hlt))
      cases hd : isd c
      · rw [← hc, hd, hc] at hj
        clear hd HC hc
        go_wp2_with fail
        refine hj.mono ?_
        rintro e w' ⟨rfl, rfl⟩
        go_wp2
        go_ret
        exact ⟨false, rfl, (fun h => by cases h), rfl⟩
      · have hdd := isd_iff.1 hd
        rw [← hc, hd, hc] at hj
        have HD := Lib.hid hdd
        clear hd hc hdd
        go_wp2_with fail
        refine hj.mono ?_
        rintro e w' ⟨rfl, rfl⟩
        go_wp2
        go_round
        case rel =>
          refine ⟨k + 1, hlt, rfl, fun q h1 h2 => ?_⟩
          by_cases hq : q = k
          · subst hq; rw [← HC.out]; exact HD.out
          · exact HA.out q h1 (by omega)
        case measure => simp [intOf]; omega
    · have l1 : ¬ (k : Int) < s.size := by omega
      obtain rfl : k = s.size := by omega
      by_cases h0 : 0 < s.size
      · have h0' : (0 : Int) < s.size := by omega
        go_wp2
        go_ret
        exact ⟨true, rfl, (fun _ => by first | exact ⟨HA.out, h0⟩ | exact HA.out), rfl⟩
      · have h0' : ¬ (0 : Int) < s.size := by omega
        go_wp2
        go_ret
        exact ⟨false, rfl, (fun h => by cases h), rfl⟩

def RunR (s : ByteArray) (a : Nat) (w : World) (e : Ending) (w' : World) : Prop := ∃ k : Nat, e = .returned (.int .i64 k) ∧ Run s a k ∧ w = w'
set_option maxRecDepth 100000 in
theorem jRun_any (s : ByteArray) (a : Nat) (w : World) (ha : a ≤ s.size) (hs : s.size ≤ 1000) :
    Calls Tryz.prog 15 #[.string s, .int .i64 a] w (RunR s a w) := by
  go_enter Tryz.func15, Tryz.ntmps15
  go_wp2
  go_loop [1] (fun iv => ∃ k : Nat, a ≤ k ∧ k ≤ s.size ∧ iv = .int .i64 k ∧ Alld s a k) (fun iv => (1001 - intOf iv).toNat)
  case atStart => exact ⟨a, Nat.le_refl _, ha, rfl, fun q h1 h2 => by omega⟩
  case round =>
    obtain ⟨k, hak, hk, rfl, hA⟩ := hrel
    have HA := Lib.hid hA
    clear hA
    by_cases hlt : k < s.size
    · have l1 : (k : Int) < s.size := by omega
      have hb := byt_lt s k
      have hj := jDigit_any (byt s k) w hb
      rw [← byt_in hlt] at hj
      obtain ⟨c, hc⟩ : ∃ c, c = (s[k]'hlt).toNat := ⟨_, rfl⟩
      have HC : Hid (c = byt s k) := Lib.hid (hc.trans (byt_in hlt))
      cases hd : isd c
      · have hdd := isd_no.1 hd
        rw [← hc, hd, hc] at hj
        have HD := Lib.hid hdd
        clear hd hc hdd
        go_wp2_with fail
        refine hj.mono ?_
        rintro e w' ⟨rfl, rfl⟩
        go_wp2
        go_ret
        exact ⟨k, rfl, ⟨hak, hk, HA.out, fun _ => by rw [← HC.out]; exact HD.out⟩, rfl⟩
      · have hdd := isd_iff.1 hd
        rw [← hc, hd, hc] at hj
        have HD := Lib.hid hdd
        clear hd hc hdd
        go_wp2_with fail
        refine hj.mono ?_
        rintro e w' ⟨rfl, rfl⟩
        go_wp2
        go_round
        case rel =>
          refine ⟨k + 1, by omega, hlt, rfl, fun q h1 h2 => ?_⟩
          by_cases hq : q = k
          · subst hq; rw [← HC.out]; exact HD.out
          · exact HA.out q h1 (by omega)
        case measure => simp [intOf]; omega
    · have l1 : ¬ (k : Int) < s.size := by omega
      obtain rfl : k = s.size := by omega
      go_wp2
      go_ret
      exact ⟨s.size, rfl, ⟨ha, Nat.le_refl _, HA.out, fun h => by omega⟩, rfl⟩

set_option maxRecDepth 100000 in
theorem jPlain_any (s : ByteArray) (w : World) (hs : s.size ≤ 1000) :
    Calls Tryz.prog 16 #[.string s] w (SayB (Alld s 0 s.size ∧ 0 < s.size ∧ (s.size = 1 ∨ byt s 0 ≠ 48)) w) := by
  have hj := jDigits_any s w hs
  go_enter Tryz.func16, Tryz.ntmps16
  go_wp2_with fail
  refine hj.mono ?_
  rintro e w' ⟨b, rfl, hb, rfl⟩
  clear hj
  have HB := Lib.hid hb
  clear hb
  cases b
  · go_wp2
    go_ret
    exact ⟨false, rfl, (fun h => by cases h), rfl⟩
  · have h0 : 0 < s.size := (HB.out (by first | rfl | trivial)).2
    by_cases h1 : s.size = 1
    · have h1' : ((s.size : Int) == 1) = true := beq_iff_eq.2 (by omega)
      have HH := Lib.hid h1
      clear h1
      go_wp2
      go_ret
      exact ⟨true, rfl, fun _ => ⟨(HB.out (by first | rfl | trivial)).1, h0, .inl HH.out⟩, rfl⟩
    · have h1' : ((s.size : Int) == 1) = false := beq_eq_false_iff_ne.2 (by omega)
      have h00 : (0 : Int) < s.size := by omega
      obtain ⟨c, hc⟩ : ∃ c, c = (s[0]'h0).toNat := ⟨_, rfl⟩
      by_cases h2 : c = 48
      · have h2' : (((s[0]'h0).toNat : Int) != 48) = false := by rw [← hc, h2]; rfl
        clear hc h2 h1
        go_wp2
        go_ret
        exact ⟨false, rfl, (fun h => by cases h), rfl⟩
      · have h2' : (((s[0]'h0).toNat : Int) != 48) = true := by rw [← hc, bne_iff_ne]; omega
        have HC : Hid (byt s 0 ≠ 48) := Lib.hid (by rw [← byt_in h0, ← hc]; exact h2)
        clear hc h2 h1
        go_wp2
        go_ret
        exact ⟨true, rfl, fun _ => ⟨(HB.out (by first | rfl | trivial)).1, h0, .inr HC.out⟩, rfl⟩
end Go.Proofs.YtbnmgopobmiadaaGreatDoor

/- The spec's jNumber, jExponent. -/
namespace Go.Proofs.YtbnmgopobmiadaaGreatDoor
open Go.RowKit

/-- an integer between bounds -/
def SayI (lo hi : Int) (w : World) (e : Ending) (w' : World) : Prop := ∃ v : Int, e = .returned (.int .i64 v) ∧ lo ≤ v ∧ v ≤ hi ∧ w = w'
set_option maxRecDepth 100000 in
theorem jNumber_small (s : ByteArray) (w : World) (hs : s.size ≤ 2) : Calls Tryz.prog 28 #[.string s] w (SayI 0 3000 w) := by
  go_enter Tryz.func28, Tryz.ntmps28
  go_wp2
  go_loop [3, 4] (fun nv iv => ∃ (k : Nat) (v : Int), k ≤ s.size ∧ iv = .int .i64 k ∧ nv = .int .i64 v ∧ 0 ≤ v ∧ (k = 0 → v = 0) ∧ (k = 1 → v ≤ 255) ∧ v ≤ 3000) (fun _ iv => (1001 - intOf iv).toNat)
  case atStart => exact ⟨0, 0, Nat.zero_le _, rfl, rfl, by omega, fun _ => rfl, by omega, by omega⟩
  case round =>
    obtain ⟨k, v, hk, rfl, rfl, h0, hk0, hk1, h3⟩ := hrel
    by_cases hlt : k < s.size
    · have l1 : (k : Int) < s.size := by omega
      have hv : v ≤ 255 := by
        rcases (by omega : k = 0 ∨ k = 1) with h | h
        · have := hk0 h; omega
        · exact hk1 h
      have hk1' : k = 0 → v = 0 := hk0
      obtain ⟨d, hd⟩ : ∃ d, d = IntKind.u8.wrap (((s[k]'hlt).toNat : Int) - 48) := ⟨_, rfl⟩
      have hd' : 0 ≤ d ∧ d ≤ 255 := by
        rw [hd, IntKind.wrap_u8]; omega
      obtain ⟨d1, d2⟩ := hd'
      have hdd : IntKind.u8.wrap (((s[k]'hlt).toNat : Int) - 48) = d := hd.symm
      have HK := Lib.hid hk1'
      clear hk0 hk1 hk1' hd
      go_wp2
      go_round
      case rel =>
        refine ⟨k + 1, _, hlt, rfl, rfl, by omega, by omega, fun h => ?_, by omega⟩
        have := HK.out (by omega)
        omega
      case measure => simp [intOf]; omega
    · have l1 : ¬ (k : Int) < s.size := by omega
      clear hk0 hk1
      go_wp2
      go_ret
      exact ⟨v, rfl, h0, h3, rfl⟩

/-- what an exponent's text is -/
def ExpS (s : ByteArray) : Prop := s.size = 0 ∨ ((byt s 0 = 101 ∨ byt s 0 = 69) ∧ ∃ p, (p = 1 ∨ p = 2 ∧ (byt s 1 = 43 ∨ byt s 1 = 45)) ∧ p < s.size ∧ s.size ≤ p + 2 ∧ ∀ q, p ≤ q → q < s.size → 48 ≤ byt s q ∧ byt s q ≤ 57)
def SayE (P : Prop) (w : World) (e : Ending) (w' : World) : Prop := ∃ (v : Int) (b : Bool), e = .returned (.tuple #[.int .i64 v, .bool b]) ∧ -3000 ≤ v ∧ v ≤ 3000 ∧ (b = true → P) ∧ w = w'
theorem isEmpty_pos {s : ByteArray} (h : 0 < s.size) : s.toList.isEmpty = false := by
  rw [ByteArray.toList_eq, List.isEmpty_eq_false_iff]
  intro e
  have h2 : s.data.toList.length = 0 := by rw [e]; rfl
  have h3 : s.data.size = s.size := rfl
  rw [Array.length_toList] at h2
  omega
theorem isEmpty_zero {s : ByteArray} (h : s.size = 0) : s.toList.isEmpty = true := by
  rw [ByteArray.toList_eq, List.isEmpty_iff]
  refine List.length_eq_zero_iff.1 ?_
  rw [Array.length_toList]; exact h

theorem sign_at {t : ByteArray} {d : Nat} (hq : 0 < t.size) (hd : d = (t[0]'hq).toNat) (h : d = 43 ∨ d = 45) : byt t 0 = 43 ∨ byt t 0 = 45 := by rw [← byt_in hq, ← hd]; exact h
theorem expS_one {s t : ByteArray} {P : Prop} {c : Nat} (hp : 0 < s.size) (h1 : t.size = s.size - 1) (h2 : ∀ q, q < t.size → byt t q = byt s (1 + q)) (hP : P = ExpS s) (hc : c = (s[0]'hp).toNat ∧ (c = 101 ∨ c = 69)) (hl : t.size ≤ 2) (h : Alld t 0 t.size ∧ 0 < t.size) : P := by
  rw [hP]
  refine .inr ⟨by rw [← byt_in hp, ← hc.1]; exact hc.2, 1, .inl rfl, by omega, by omega, fun q a b => ?_⟩
  have h3 := h.1 (q - 1) (by omega) (by omega)
  rw [h2 (q - 1) (by omega), show 1 + (q - 1) = q by omega] at h3
  exact h3
theorem expS_two {s t u : ByteArray} {P : Prop} {c : Nat} (hp : 0 < s.size) (h1 : t.size = s.size - 1) (h2 : ∀ q, q < t.size → byt t q = byt s (1 + q)) (hP : P = ExpS s) (hc : c = (s[0]'hp).toNat ∧ (c = 101 ∨ c = 69))
    (h3 : u.size = t.size - 1) (h4 : ∀ q, q < u.size → byt u q = byt t (1 + q)) (hs : byt t 0 = 43 ∨ byt t 0 = 45) (hl : u.size ≤ 2) (h : Alld u 0 u.size ∧ 0 < u.size) : P := by
  rw [hP]
  have h5 := h2 0 (by omega)
  refine .inr ⟨by rw [← byt_in hp, ← hc.1]; exact hc.2, 2, .inr ⟨rfl, by rw [h5] at hs; exact hs⟩, by omega, by omega, fun q a b => ?_⟩
  have h6 := h.1 (q - 2) (by omega) (by omega)
  rw [h4 (q - 2) (by omega), h2 (1 + (q - 2)) (by omega), show 1 + (1 + (q - 2)) = q by omega] at h6
  exact h6

set_option maxHeartbeats 1000000 in
set_option maxRecDepth 100000 in
theorem jExponent_any (s : ByteArray) (w : World) (hs : s.size ≤ 1000) : Calls Tryz.prog 17 #[.string s] w (SayE (ExpS s) w) := by
  obtain ⟨P, hP⟩ : ∃ P, P = ExpS s := ⟨_, rfl⟩
  rw [← hP]
  by_cases h0 : s.size = 0
  · have he := isEmpty_zero h0
    have HP : Hid P := Lib.hid (by rw [hP]; exact .inl h0)
    clear hP h0
    go_enter Tryz.func17, Tryz.ntmps17
    go_wp2
    go_ret2
    exact ⟨0, true, rfl, by omega, by omega, fun _ => HP.out, rfl⟩
  · have hp : 0 < s.size := by omega
    have he := isEmpty_pos hp
    obtain ⟨c, hc⟩ : ∃ c, c = (s[0]'hp).toNat := ⟨_, rfl⟩
    by_cases hE : c = 101 ∨ c = 69
    · have hin : (1 : Int) ≤ s.size := by omega
      obtain ⟨t, ht⟩ : ∃ t, t = s.extract 1 s.size := ⟨_, rfl⟩
      have hts : t.size = s.size - 1 := by rw [ht, ByteArray.size_extract, Nat.min_self]
      have htb : ∀ q, q < t.size → byt t q = byt s (1 + q) := fun q hq => by rw [ht]; exact byt_extract _ _ _ _ (by omega) (Nat.le_refl _)
      have HT := Lib.hid (And.intro ht (And.intro hts (And.intro htb (And.intro hP (And.intro hc hE)))))
      clear hts htb hP
      have hts : t.size ≤ 1000 := by have := HT.out.2.1; omega
      rcases hE with h1 | h1
      case' inl => have e1 : (((s[0]'hp).toNat : Int) != 101) = false := by rw [← hc, h1]; rfl
      case' inr =>
        have e1 : (((s[0]'hp).toNat : Int) != 101) = true := by rw [← hc, h1]; rfl
        have e2 : (((s[0]'hp).toNat : Int) != 69) = false := by rw [← hc, h1]; rfl
      all_goals
        clear h1 hc ht
        go_enter Tryz.func17, Tryz.ntmps17
        go_upto_region 6 with (fail)
        rw [← HT.out.1]
        by_cases hz : t.size = 0
        · have he2 := isEmpty_zero hz
          have hj := jDigits_any t w (by omega)
          have hz' : ¬ 0 < t.size := by omega
          clear hz
          go_wp2_with fail
          refine hj.mono ?_
          rintro e w' ⟨b, rfl, hb, rfl⟩
          have HB := Lib.hid hb
          clear hj hb
          cases b
          · go_wp2
            go_ret2
            exact ⟨0, false, rfl, by omega, by omega, (fun h => by cases h), rfl⟩
          · exact absurd (HB.out (by first | rfl | trivial)).2 hz'
        · have hq : 0 < t.size := by omega
          have he2 := isEmpty_pos hq
          have hin2 : (1 : Int) ≤ t.size := by omega
          obtain ⟨d, hd⟩ : ∃ d, d = (t[0]'hq).toNat := ⟨_, rfl⟩
          obtain ⟨u, hu⟩ : ∃ u, u = t.extract 1 t.size := ⟨_, rfl⟩
          have hus : u.size = t.size - 1 := by rw [hu, ByteArray.size_extract, Nat.min_self]
          have hub : ∀ q, q < u.size → byt u q = byt t (1 + q) := fun q hq => by rw [hu]; exact byt_extract _ _ _ _ (by omega) (Nat.le_refl _)
          by_cases hs1 : d = 45
          · have k1 : (((t[0]'hq).toNat : Int) == 45) = true := by rw [← hd, hs1]; rfl
            have HU := Lib.hid (And.intro hu (And.intro hus (And.intro hub (sign_at hq hd (.inr hs1)))))
            have hus' : u.size ≤ 1000 := by omega
            clear hu hus hub hs1 hd
            go_upto_region 9 with (fail)
            rw [← HU.out.1]
            have hj := jDigits_any u w (by omega)
            go_wp2_with fail
            refine hj.mono ?_
            rintro e w' ⟨b, rfl, hb, rfl⟩
            have HB := Lib.hid hb
            clear hj hb
            cases b
            · go_wp2
              go_ret2
              exact ⟨0, false, rfl, by omega, by omega, (fun h => by cases h), rfl⟩
            · by_cases hl : u.size ≤ 2
              · have hn := jNumber_small u w hl
                have hl' : (u.size : Int) ≤ 2 := by omega
                have HP : Hid P := Lib.hid (expS_two hp HT.out.2.1 HT.out.2.2.1 HT.out.2.2.2.1 HT.out.2.2.2.2 HU.out.2.1 HU.out.2.2.1 HU.out.2.2.2 hl (HB.out (by first | rfl | trivial)))
                clear HB HT
                go_wp2_with fail
                refine hn.mono ?_
                rintro e w' ⟨v, rfl, v0, v1, rfl⟩
                go_wp2
                go_ret2
                exact ⟨_, true, rfl, by omega, by omega, fun _ => HP.out, rfl⟩
              · have hl' : ¬ (u.size : Int) ≤ 2 := by omega
                go_wp2
                go_ret2
                exact ⟨0, false, rfl, by omega, by omega, (fun h => by cases h), rfl⟩
          · by_cases hs2 : d = 43
            · have k1 : (((t[0]'hq).toNat : Int) == 45) = false := by rw [← hd, hs2]; rfl
              have k2 : (((t[0]'hq).toNat : Int) == 43) = true := by rw [← hd, hs2]; rfl
              have HU := Lib.hid (And.intro hu (And.intro hus (And.intro hub (sign_at hq hd (.inl hs2)))))
              have hus' : u.size ≤ 1000 := by omega
              clear hu hus hub hs1 hs2 hd
              go_upto_region 9 with (fail)
              rw [← HU.out.1]
              have hj := jDigits_any u w (by omega)
              go_wp2_with fail
              refine hj.mono ?_
              rintro e w' ⟨b, rfl, hb, rfl⟩
              have HB := Lib.hid hb
              clear hj hb
              cases b
              · go_wp2
                go_ret2
                exact ⟨0, false, rfl, by omega, by omega, (fun h => by cases h), rfl⟩
              · by_cases hl : u.size ≤ 2
                · have hn := jNumber_small u w hl
                  have hl' : (u.size : Int) ≤ 2 := by omega
                  have HP : Hid P := Lib.hid (expS_two hp HT.out.2.1 HT.out.2.2.1 HT.out.2.2.2.1 HT.out.2.2.2.2 HU.out.2.1 HU.out.2.2.1 HU.out.2.2.2 hl (HB.out (by first | rfl | trivial)))
                  clear HB HT
                  go_wp2_with fail
                  refine hn.mono ?_
                  rintro e w' ⟨v, rfl, v0, v1, rfl⟩
                  go_wp2
                  go_ret2
                  exact ⟨_, true, rfl, by omega, by omega, fun _ => HP.out, rfl⟩
                · have hl' : ¬ (u.size : Int) ≤ 2 := by omega
                  go_wp2
                  go_ret2
                  exact ⟨0, false, rfl, by omega, by omega, (fun h => by cases h), rfl⟩
            · have k1 : (((t[0]'hq).toNat : Int) == 45) = false := by rw [← hd]; exact beq_eq_false_iff_ne.2 (by omega)
              have k2 : (((t[0]'hq).toNat : Int) == 43) = false := by rw [← hd]; exact beq_eq_false_iff_ne.2 (by omega)
              clear hu hus hub hs1 hs2 hd
              have hj := jDigits_any t w (by omega)
              go_wp2_with fail
              refine hj.mono ?_
              rintro e w' ⟨b, rfl, hb, rfl⟩
              have HB := Lib.hid hb
              clear hj hb
              cases b
              · go_wp2
                go_ret2
                exact ⟨0, false, rfl, by omega, by omega, (fun h => by cases h), rfl⟩
              · by_cases hl : t.size ≤ 2
                · have hn := jNumber_small t w hl
                  have hl' : (t.size : Int) ≤ 2 := by omega
                  have HP : Hid P := Lib.hid (expS_one hp HT.out.2.1 HT.out.2.2.1 HT.out.2.2.2.1 HT.out.2.2.2.2 hl (HB.out (by first | rfl | trivial)))
                  clear HB HT
                  go_wp2_with fail
                  refine hn.mono ?_
                  rintro e w' ⟨v, rfl, v0, v1, rfl⟩
                  go_wp2
                  go_ret2
                  exact ⟨_, true, rfl, by omega, by omega, fun _ => HP.out, rfl⟩
                · have hl' : ¬ (t.size : Int) ≤ 2 := by omega
                  go_wp2
                  go_ret2
                  exact ⟨0, false, rfl, by omega, by omega, (fun h => by cases h), rfl⟩
    · have e1 : (((s[0]'hp).toNat : Int) != 101) = true := by rw [← hc, bne_iff_ne]; omega
      have e2 : (((s[0]'hp).toNat : Int) != 69) = true := by rw [← hc, bne_iff_ne]; omega
      clear hE hc hP
      go_enter Tryz.func17, Tryz.ntmps17
      go_wp2
      go_ret2
      exact ⟨0, false, rfl, by omega, by omega, (fun h => by cases h), rfl⟩
end Go.Proofs.YtbnmgopobmiadaaGreatDoor

/- The spec's jBare, jZeros, jCompareDigits. -/
namespace Go.Proofs.YtbnmgopobmiadaaGreatDoor
open Go.RowKit

/-- zeros alone -/
def Zer (s : ByteArray) : Prop := ∀ q, q < s.size → byt s q = 48
/-- digits without zeros ahead -/
def Bared (s : ByteArray) (w : World) (e : Ending) (w' : World) : Prop := ∃ u : ByteArray, e = .returned (.string u) ∧ u.size ≤ s.size ∧ (u.size = 0 ↔ Zer s) ∧ (0 < u.size → byt u 0 ≠ 48) ∧ w = w'
set_option maxRecDepth 100000 in
theorem jBare_any (s : ByteArray) (w : World) (_hs : s.size ≤ 1000) : Calls Tryz.prog 29 #[.string s] w (Bared s w) := by
  go_enter Tryz.func29, Tryz.ntmps29
  go_wp2
  go_loop [0] (fun sv => ∃ u : ByteArray, sv = .string u ∧ u.size ≤ s.size ∧ (Zer u ↔ Zer s)) (fun sv => match sv with | .string u => u.size | _ => 0)
  case atStart => exact ⟨s, rfl, Nat.le_refl _, Iff.rfl⟩
  case round =>
    obtain ⟨u, rfl, hu, hz⟩ := hrel
    have HZ := Lib.hid hz
    clear hz
    by_cases h0 : u.size = 0
    · have he := isEmpty_zero h0
      have H0 := Lib.hid h0
      clear h0
      go_wp2
      go_ret
      exact ⟨u, rfl, hu, ⟨fun h => HZ.out.1 (fun q hq => by omega), fun _ => H0.out⟩, fun h => by have := H0.out; omega, rfl⟩
    · have hp : 0 < u.size := by omega
      have he := isEmpty_pos hp
      obtain ⟨c, hc⟩ : ∃ c, c = (u[0]'hp).toNat := ⟨_, rfl⟩
      have HC : Hid (c = byt u 0) := Lib.hid (by rw [hc]; exact byt_in hp)
      by_cases h1 : c = 48
      · have k1 : (((u[0]'hp).toNat : Int) == 48) = true := by rw [← hc, h1]; rfl
        have hin : (1 : Int) ≤ u.size := by omega
        have H1 := Lib.hid h1
        clear h1 hc
        go_wp2
        go_round
        case rel =>
          have hts : (u.extract 1 u.size).size = u.size - 1 := by rw [ByteArray.size_extract, Nat.min_self]
          refine ⟨_, rfl, by omega, Iff.trans ⟨fun h q hq => ?_, fun h q hq => ?_⟩ HZ.out⟩
          · by_cases hq0 : q = 0
            · subst hq0; rw [← HC.out]; exact H1.out
            · have h3 := h (q - 1) (by omega)
              rw [byt_extract _ _ _ _ (by omega) (Nat.le_refl _), show 1 + (q - 1) = q by omega] at h3
              exact h3
          · rw [byt_extract _ _ _ _ (by omega) (Nat.le_refl _)]
            exact h _ (by omega)
        case measure =>
          have hts : (u.extract 1 u.size).size = u.size - 1 := by rw [ByteArray.size_extract, Nat.min_self]
          show (u.extract 1 u.size).size < u.size
          omega
      · have k1 : (((u[0]'hp).toNat : Int) == 48) = false := by rw [← hc]; exact beq_eq_false_iff_ne.2 (by omega)
        have H1 := Lib.hid h1
        clear h1 hc
        go_wp2
        go_ret
        exact ⟨u, rfl, hu, ⟨fun h => by omega, fun h => absurd (HC.out.trans (HZ.out.2 h 0 hp)) H1.out⟩, fun _ h => H1.out (HC.out.trans h), rfl⟩

/-- k zeros behind -/
def zapp (s : ByteArray) : Nat → ByteArray
  | 0 => s
  | k + 1 => zapp s k ++ ⟨#[48]⟩
/-- what jZeros hands back -/
def zres (s : ByteArray) (n : Int) : ByteArray := if s.size = 0 then s else zapp s n.toNat
theorem zapp_size (s : ByteArray) : ∀ k, (zapp s k).size = s.size + k
  | 0 => rfl
  | k + 1 => by
    have h : (zapp s k ++ (⟨#[48]⟩ : ByteArray)).size = (zapp s k).size + 1 := by rw [ByteArray.size_append]; rfl
    rw [zapp, h, zapp_size s k]; omega
theorem zres_size (s : ByteArray) (n : Int) : (zres s n).size = 0 ↔ s.size = 0 := by
  unfold zres
  split
  · exact Iff.rfl
  · rw [zapp_size]; omega
theorem zres_nil (n : Int) : zres ⟨#[]⟩ n = ⟨#[]⟩ := if_pos rfl
/-- jZeros' loop -/
def ZR (s : ByteArray) (n : Int) (u : ByteArray) (k : Int) : Prop := ∃ j : Nat, u = zapp s j ∧ k = n - j ∧ (j = 0 ∨ 0 ≤ k)
set_option maxRecDepth 100000 in
theorem jZeros_any (s : ByteArray) (n : Int) (w : World) (hs : s.size ≤ 1000) (hn : n ≤ 10000) (hn0 : -10000 ≤ n) : Calls Tryz.prog 30 #[.string s, .int .i64 n] w fun e w' => e = .returned (.string (zres s n)) ∧ w = w' := by
  by_cases h0 : s.size = 0
  · have he := isEmpty_zero h0
    have hz : zres s n = s := if_pos h0
    rw [hz]
    clear hz h0
    by_cases hp : 0 < n
    all_goals
      go_enter Tryz.func30, Tryz.ntmps30
      go_wp2
      refine wp_loop_rounds 1 ?_
      rw [rounds_succ]
      go_wp2
      go_ret
      exact ⟨rfl, rfl⟩
  · have hz : zres s n = zapp s n.toNat := if_neg h0
    obtain ⟨z, hzz⟩ : ∃ z, z = zres s n := ⟨_, rfl⟩
    rw [← hzz]
    have HZ := Lib.hid (hzz.trans hz)
    clear hz hzz
    go_enter Tryz.func30, Tryz.ntmps30
    go_wp2
    go_loop [0, 1] (fun sv nv => ∃ (u : ByteArray) (k : Int), sv = .string u ∧ nv = .int .i64 k ∧ ZR s n u k) (fun _ nv => (intOf nv).toNat)
    case atStart => exact ⟨s, n, rfl, rfl, 0, rfl, by omega, .inl rfl⟩
    case round =>
      obtain ⟨u, k, rfl, rfl, hR⟩ := hrel
      have HR := Lib.hid hR
      have hb : -10000 ≤ k ∧ k ≤ 10000 ∧ 0 < u.size ∧ u.size ≤ 30000 := by
        obtain ⟨j, rfl, h1, h2⟩ := hR
        have := zapp_size s j
        omega
      obtain ⟨hk3, hk2, hup, hul⟩ := hb
      have hul' : ¬ 9223372036854775807 < u.size + 1 := by omega
      have he := isEmpty_pos hup
      clear hR
      by_cases hp : 0 < k
      · go_wp2
        go_round
        case rel =>
          obtain ⟨j, h0, h1, h2⟩ := HR.out
          exact ⟨_, _, rfl, rfl, j + 1, by rw [h0]; rfl, by omega, .inr (by omega)⟩
        case measure => simp [intOf]; omega
      · go_wp2
        go_ret
        refine ⟨?_, rfl⟩
        obtain ⟨j, h0, h1, h2⟩ := HR.out
        have h3 : n.toNat = j := by omega
        rw [HZ.out, h3, h0]; rfl

theorem jCompareDigits_nil (w : World) : Calls Tryz.prog 20 #[.string ⟨#[]⟩, .string ⟨#[]⟩] w fun e w' => e = .returned (.int .i64 0) ∧ w = w' := by
  go_enter Tryz.func20, Tryz.ntmps20
  go_wp2
  go_ret
  exact ⟨rfl, rfl⟩
theorem jCompareDigits_pos (x : ByteArray) (w : World) (h : 0 < x.size) : Calls Tryz.prog 20 #[.string x, .string ⟨#[]⟩] w fun e w' => e = .returned (.int .i64 1) ∧ w = w' := by
  have h1 : (0 : Int) < x.size := by omega
  have h2 : ¬ (x.size : Int) < 0 := by omega
  go_enter Tryz.func20, Tryz.ntmps20
  go_wp2
  go_ret
  exact ⟨rfl, rfl⟩
end Go.Proofs.YtbnmgopobmiadaaGreatDoor
