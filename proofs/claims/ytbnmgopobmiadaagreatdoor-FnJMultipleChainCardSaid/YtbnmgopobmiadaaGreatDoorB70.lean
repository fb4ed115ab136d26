/- The law. -/
import Derived.Test.YtbnmgopobmiadaaGreatDoorB54
import Derived.Test.YtbnmgopobmiadaaGreatDoorB66

set_option linter.unusedSimpArgs false
set_option linter.unusedVariables false

namespace Go.Proofs.YtbnmgopobmiadaaGreatDoor
open Go.RowKit

theorem law_cells (s0 s1 s2 : ByteArray) (w : World) (z0 : s0.size ≤ 9223372036854775807) (z1 : s1.size ≤ 9223372036854775807) (z2 : s2.size ≤ 9223372036854775807) :
    ∀ i : Nat, i < 3 → ∃ t : ByteArray, t.size ≤ 9223372036854775807 ∧ (w.alloc (.cells #[.string s0, .string s1, .string s2] 9)).cell? ⟨w.heap.size, i, none⟩ = some (.string t) := by
  intro i hi
  have h := heap_alloc_new w (.cells #[.string s0, .string s1, .string s2] 9)
  obtain rfl | rfl | rfl : i = 0 ∨ i = 1 ∨ i = 2 := by omega
  · exact ⟨s0, z0, by simp only [World.cell?, h]; rfl⟩
  · exact ⟨s1, z1, by simp only [World.cell?, h]; rfl⟩
  · exact ⟨s2, z2, by simp only [World.cell?, h]; rfl⟩
theorem one_run : Run ⟨#[49]⟩ 0 1 where
  lo := by omega
  hi := Nat.le_refl 1
  dig := fun q _ h => by
    obtain rfl : q = 0 := by omega
    decide
  stop := fun h => absurd h (by decide)
theorem NumOf.one : NumOf ⟨#[49]⟩ false 1 1 :=
  ⟨0, 1, none, 0, ⟨by decide, .inl ⟨rfl, by decide⟩, mant_whole (a := 0) (k := 1) one_run (by decide) (.inl rfl) (fun h => absurd h (by decide)), .inl ⟨rfl, rfl⟩⟩, by decide, by decide, by decide, by decide⟩

set_option maxHeartbeats 8000000 in
set_option maxRecDepth 100000 in
theorem law_small (s0 s1 s2 : ByteArray) (te : TypeId) (ve : Value) (w : World) (hE : Env te ve w) (hq : EofEq te ve) (z0 : s0.size ≤ 2147483647) (z1 : s1.size ≤ 2147483647) (z2 : s2.size ≤ 2147483647)
    (h9 : ∀ (t : ByteArray) (w : World), t.size ≤ 9223372036854775807 → Calls Tryz.prog 9 #[.string t] w (DecOf t w)) :
    Calls Tryz.prog 3 #[.string s0, .string s1, .string s2] w (fun e w' => e = .returned (.bool true) ∧ Chg (fun _ => False) w w') := by
  have l0 : ¬ (2147483647 : Int) < s0.size := by omega
  have l1 : ¬ (2147483647 : Int) < s1.size := by omega
  have l2 : ¬ (2147483647 : Int) < s2.size := by omega
  have H9 := Lib.hid h9
  have HE := Lib.hid hE
  have HQ := Lib.hid hq
  have HZ := Lib.hid (And.intro z0 (And.intro z1 z2))
  have hj4 := jDecimals_any w.heap.size (w.alloc (.cells #[.string s0, .string s1, .string s2] 9)) (law_cells s0 s1 s2 w (by omega) (by omega) (by omega)) h9
  have H4 := Lib.hid hj4
  have HC0 := Lib.hid ((Chg.refl (fun _ => False) w).alloc (.cells #[.string s0, .string s1, .string s2] 9))
  clear h9 hE hq z0 z1 z2 hj4
  go_enter Tryz.func3, Tryz.ntmps3
  go_wp2_with fail
  refine H4.out.mono ?_
  rintro e w1 ⟨b, rfl, hc⟩
  have HC1 := Lib.hid (HC0.out.trans hc (fun _ h => h) (fun _ _ h => h))
  clear hc HC0 H4
  cases b
  · go_wp2
    go_ret
    exact ⟨rfl, HC1.out⟩
  have hj := jSign_any s0 w1 (H9.out s0 w1 (by have := HZ.out; omega))
  have HJ0 := Lib.hid hj
  clear hj
  go_wp2_with fail
  refine HJ0.out.mono ?_
  rintro e w2 ⟨c0, rfl, hn0, hc⟩
  have HC2 := Lib.hid (HC1.out.trans hc (fun _ h => h) (fun _ _ h => h))
  have HN0 := Lib.hid hn0
  clear hc hn0 HC1 HJ0
  by_cases g0 : c0 = 0
  · subst g0
    go_wp2
    go_ret
    exact ⟨rfl, HC2.out⟩
  have k0 : (c0 == 0) = false := beq_eq_false_iff_ne.2 g0
  obtain ⟨neg0, P0, Q0, hN0⟩ := HN0.out g0
  have HM0 := Lib.hid hN0
  clear g0 HN0 hN0
  have hj := jSign_any s1 w2 (H9.out s1 w2 (by have := HZ.out; omega))
  have HJ1 := Lib.hid hj
  clear hj
  go_wp2_with fail
  refine HJ1.out.mono ?_
  rintro e w3 ⟨c1, rfl, hn1, hc⟩
  have HC3 := Lib.hid (HC2.out.trans hc (fun _ h => h) (fun _ _ h => h))
  have HN1 := Lib.hid hn1
  clear hc hn1 HC2 HJ1
  by_cases g1 : c1 = 0
  · subst g1
    go_wp2
    go_ret
    exact ⟨rfl, HC3.out⟩
  have k1 : (c1 == 0) = false := beq_eq_false_iff_ne.2 g1
  obtain ⟨neg1, P1, Q1, hN1⟩ := HN1.out g1
  have HM1 := Lib.hid hN1
  clear g1 HN1 hN1
  have hj := jSign_any s2 w3 (H9.out s2 w3 (by have := HZ.out; omega))
  have HJ2 := Lib.hid hj
  clear hj
  go_wp2_with fail
  refine HJ2.out.mono ?_
  rintro e w4 ⟨c2, rfl, hn2, hc⟩
  have HC4 := Lib.hid (HC3.out.trans hc (fun _ h => h) (fun _ _ h => h))
  have HN2 := Lib.hid hn2
  clear hc hn2 HC3 HJ2
  by_cases g2 : c2 = 0
  · subst g2
    go_wp2
    go_ret
    exact ⟨rfl, HC4.out⟩
  have k2 : (c2 == 0) = false := beq_eq_false_iff_ne.2 g2
  obtain ⟨neg2, P2, Q2, hN2⟩ := HN2.out g2
  have HM2 := Lib.hid hN2
  clear g2 HN2 hN2
  have p0 := HM0.out.pos
  have p1 := HM1.out.pos
  have p2 := HM2.out.pos
  have d0 := div_gcd_ne p0.1 p0.2.1
  have d1 := div_gcd_ne p1.1 p1.2.1
  have d2 := div_gcd_ne p2.1 p2.2.1
  obtain ⟨m01, e01⟩ : ∃ b, b = mulB (P0 / Nat.gcd P0 Q0) (Q0 / Nat.gcd P0 Q0) (P1 / Nat.gcd P1 Q1) (Q1 / Nat.gcd P1 Q1) := ⟨_, rfl⟩
  obtain ⟨m12, e12⟩ : ∃ b, b = mulB (P1 / Nat.gcd P1 Q1) (Q1 / Nat.gcd P1 Q1) (P2 / Nat.gcd P2 Q2) (Q2 / Nat.gcd P2 Q2) := ⟨_, rfl⟩
  obtain ⟨m02, e02⟩ : ∃ b, b = mulB (P0 / Nat.gcd P0 Q0) (Q0 / Nat.gcd P0 Q0) (P2 / Nat.gcd P2 Q2) (Q2 / Nat.gcd P2 Q2) := ⟨_, rfl⟩
  obtain ⟨ci, eci⟩ : ∃ b, b = decide (Q0 / Nat.gcd P0 Q0 = 1) := ⟨_, rfl⟩
  have e00 : mulB (P0 / Nat.gcd P0 Q0) (Q0 / Nat.gcd P0 Q0) (P0 / Nat.gcd P0 Q0) (Q0 / Nat.gcd P0 Q0) = true := mulB_own d0.1 d0.2
  have e01o : mulB (P0 / Nat.gcd P0 Q0) (Q0 / Nat.gcd P0 Q0) (1 / Nat.gcd 1 1) (1 / Nat.gcd 1 1) = ci := by
    rw [eci]; exact mulB_one d0.2 (by rw [Nat.gcd_div (Nat.gcd_dvd_left _ _) (Nat.gcd_dvd_right _ _)]; exact Nat.div_self (Nat.pos_of_ne_zero (gcd_ne_right p0.2.1)))
  have hch : m01 = true → m12 = true → m02 = true := fun a b => by
    rw [e01] at a; rw [e12] at b; rw [e02]
    exact mulB_chain d1.1 d1.2 d0.2 d2.1 a b
  have hcase : (m01 = false ∨ m01 = true ∧ m12 = false) ∨ (m01 = true ∧ m12 = true ∧ m02 = true) := by
    cases m01
    · exact .inl (.inl rfl)
    · cases m12
      · exact .inl (.inr ⟨rfl, rfl⟩)
      · exact .inr ⟨rfl, rfl, hch rfl rfl⟩
  have HE4 := Lib.hid (HE.out.keep HC4.out (fun _ _ h => h))
  have HCS := Lib.hid hcase
  have E01 := Lib.hid e01
  have E12 := Lib.hid e12
  have E02 := Lib.hid e02
  have E00 := Lib.hid e00
  have E1o := Lib.hid e01o
  have ECI := Lib.hid eci
  clear p0 p1 p2 d0 d1 d2 e01 e12 e02 e00 e01o eci hch hcase HE HZ H9
  have hj := jMultiple_any s0 s1 neg0 neg1 P0 Q0 P1 Q1 te ve w4 HM0.out HM1.out HE4.out HQ.out
  rw [← E01.out] at hj
  have HJ := Lib.hid hj
  clear hj
  go_wp2_with fail
  refine HJ.out.mono ?_
  rintro e w5 ⟨rfl, hc⟩
  have HE5 := Lib.hid (HE4.out.keep hc (fun _ _ h => h))
  have HC5 := Lib.hid (HC4.out.trans hc (fun _ h => h) (fun _ _ h => h))
  clear hc HJ HE4 HC4
  have hj := jMultiple_any s1 s2 neg1 neg2 P1 Q1 P2 Q2 te ve w5 HM1.out HM2.out HE5.out HQ.out
  rw [← E12.out] at hj
  have HJ := Lib.hid hj
  clear hj
  go_wp2_with fail
  refine HJ.out.mono ?_
  rintro e w6 ⟨rfl, hc⟩
  have HE6 := Lib.hid (HE5.out.keep hc (fun _ _ h => h))
  have HC6 := Lib.hid (HC5.out.trans hc (fun _ h => h) (fun _ _ h => h))
  clear hc HJ HE5 HC5
  have hj := jMultiple_any s0 s2 neg0 neg2 P0 Q0 P2 Q2 te ve w6 HM0.out HM2.out HE6.out HQ.out
  rw [← E02.out] at hj
  have HJ := Lib.hid hj
  clear hj
  go_wp2_with fail
  refine HJ.out.mono ?_
  rintro e w7 ⟨rfl, hc⟩
  have HE7 := Lib.hid (HE6.out.keep hc (fun _ _ h => h))
  have HC7 := Lib.hid (HC6.out.trans hc (fun _ h => h) (fun _ _ h => h))
  clear hc HJ HE6 HC6
  have hj := jMultiple_any s0 s0 neg0 neg0 P0 Q0 P0 Q0 te ve w7 HM0.out HM0.out HE7.out HQ.out
  rw [E00.out] at hj
  have HJ := Lib.hid hj
  clear hj
  go_wp2_with fail
  refine HJ.out.mono ?_
  rintro e w8 ⟨rfl, hc⟩
  have HE8 := Lib.hid (HE7.out.keep hc (fun _ _ h => h))
  have HC8 := Lib.hid (HC7.out.trans hc (fun _ h => h) (fun _ _ h => h))
  clear hc HJ HE7 HC7
  have hj := jMultiple_any s0 ⟨#[49]⟩ neg0 false P0 Q0 1 1 te ve w8 HM0.out NumOf.one HE8.out HQ.out
  rw [E1o.out] at hj
  have HJ := Lib.hid hj
  clear hj
  go_wp2_with fail
  refine HJ.out.mono ?_
  rintro e w9 ⟨rfl, hc⟩
  have HE9 := Lib.hid (HE8.out.keep hc (fun _ _ h => h))
  have HC9 := Lib.hid (HC8.out.trans hc (fun _ h => h) (fun _ _ h => h))
  clear hc HJ HE8 HC8
  have hj := jInteger_any s0 neg0 P0 Q0 te ve w9 HM0.out HE9.out HQ.out
  rw [← ECI.out] at hj
  have HJ := Lib.hid hj
  clear hj
  go_wp2_with fail
  refine HJ.out.mono ?_
  rintro e w10 ⟨rfl, hc⟩
  have HC10 := Lib.hid (HC9.out.trans hc (fun _ h => h) (fun _ _ h => h))
  clear hc HJ HE9 HC9 E01 E12 E02 E00 E1o ECI
  have hcase := HCS.out
  clear HCS
  have hci : (ci == ci) = true := beq_self_eq_true ci
  rcases hcase with (rfl | ⟨rfl, rfl⟩) | ⟨rfl, rfl, rfl⟩
  all_goals
    cases ci
    all_goals
      go_wp2
      go_ret
      exact ⟨rfl, HC10.out⟩
end Go.Proofs.YtbnmgopobmiadaaGreatDoor

/- The law for every three texts. -/
namespace Go.Proofs.YtbnmgopobmiadaaGreatDoor
open Go.RowKit

set_option maxHeartbeats 4000000 in
set_option maxRecDepth 100000 in
theorem law_any (s0 s1 s2 : ByteArray) (te : TypeId) (ve : Value) (w : World) (hE : Env te ve w) (hq : EofEq te ve)
    (h9 : ∀ (t : ByteArray) (w : World), t.size ≤ 9223372036854775807 → Calls Tryz.prog 9 #[.string t] w (DecOf t w)) :
    Calls Tryz.prog 3 #[.string s0, .string s1, .string s2] w (fun e w' => e = .returned (.bool true) ∧ Chg (fun _ => False) w w') := by
  by_cases z0 : 2147483647 < s0.size
  · have l0 : (2147483647 : Int) < s0.size := by omega
    have HC := Lib.hid (Chg.refl (fun _ => False) w)
    clear h9 hE hq z0
    go_enter Tryz.func3, Tryz.ntmps3
    go_wp2
    go_ret
    exact ⟨rfl, HC.out⟩
  by_cases z1 : 2147483647 < s1.size
  · have l0 : ¬ (2147483647 : Int) < s0.size := by omega
    have l1 : (2147483647 : Int) < s1.size := by omega
    have HC := Lib.hid (Chg.refl (fun _ => False) w)
    clear h9 hE hq z0 z1
    go_enter Tryz.func3, Tryz.ntmps3
    go_wp2
    go_ret
    exact ⟨rfl, HC.out⟩
  by_cases z2 : 2147483647 < s2.size
  · have l0 : ¬ (2147483647 : Int) < s0.size := by omega
    have l1 : ¬ (2147483647 : Int) < s1.size := by omega
    have l2 : (2147483647 : Int) < s2.size := by omega
    have HC := Lib.hid (Chg.refl (fun _ => False) w)
    clear h9 hE hq z0 z1 z2
    go_enter Tryz.func3, Tryz.ntmps3
    go_wp2
    go_ret
    exact ⟨rfl, HC.out⟩
  · exact law_small s0 s1 s2 te ve w hE hq (by omega) (by omega) (by omega) h9
end Go.Proofs.YtbnmgopobmiadaaGreatDoor
