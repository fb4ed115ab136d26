/- The spec's jDecimalOf, walked. -/
import Derived.Test.YtbnmgopobmiadaaGreatDoorB63

set_option linter.unusedSimpArgs false
set_option linter.unusedVariables false

namespace Go.Proofs.YtbnmgopobmiadaaGreatDoor
open Go.RowKit

set_option maxHeartbeats 8000000 in
set_option maxRecDepth 100000 in
theorem jDecimalOf_any (s : ByteArray) (w : World) (hs0 : s.size ≤ 9223372036854775807) : Calls Tryz.prog 9 #[.string s] w (DecOf s w) := by
  have kw : Chg (fun _ => False) w (w.alloc (.cells #[.bool false, .string ⟨#[]⟩, .int .i64 0] 31)) := (Chg.refl _ w).alloc _
  have hD0 : Dm (w.alloc (.cells #[.bool false, .string ⟨#[]⟩, .int .i64 0] 31)) w.heap.size false ⟨#[]⟩ 0 := heap_alloc_new w _
  have q0 := hD0.c0
  have q1 := hD0.c1
  have q2 := hD0.c2
  have hno := Lib.hid (DecOf.no (s := s) kw)
  by_cases hs : 40 < s.size
  · have h1 : (40 : Int) < s.size := by omega
    clear hs kw hD0
    go_enter Tryz.func9, Tryz.ntmps9
    go_wp2
    refine bodyPost_ret (v := .tuple #[dec3 false ⟨#[]⟩ 0, .bool false]) (by simp [dec3, results, Tryz.results9, go_sem, q0, q1, q2]) rfl ?_
    exact hno.out
  · have h1 : ¬ (40 : Int) < s.size := by omega
    have h40 : s.size ≤ 40 := by omega
    have hKW := Lib.hid (And.intro kw hD0)
    have hcase : s.size = 0 ∨ (0 < s.size ∧ byt s 0 = 45) ∨ (0 < s.size ∧ byt s 0 ≠ 45) := by omega
    clear hs kw hD0 hs0
    have HCS := Lib.hid hcase
    clear hcase
    go_enter Tryz.func9, Tryz.ntmps9
    go_upto_region 4 with (fail)
    go_cut [4, 20] from 10 to 19 (fun s4 s20 wd => ∃ c : Bool, s4 = .int .i64 0 ∧ s20 = .bool c ∧ At s (if c then 1 else 0) ∧ wd = w.alloc (.cells #[.bool false, .string ⟨#[]⟩, .int .i64 0] 31))
    case first =>
      rcases HCS.out with h0 | ⟨hp, hc⟩ | ⟨hp, hc⟩
      · have he := isEmpty_zero h0
        have HA0 : Hid (At s 0) := Lib.hid ⟨by omega, .inl ⟨rfl, by rw [byt_out (by omega)]; omega⟩⟩
        clear h0
        go_wp2
        go_meet
        case rel => exact ⟨false, rfl, rfl, HA0.out, rfl⟩
      · have he := isEmpty_pos hp
        have k1 : (((s[0]'hp).toNat : Int) == 45) = true := by rw [byt_in hp, hc]; rfl
        have HA0 : Hid (At s 1) := Lib.hid ⟨by omega, .inr ⟨rfl, hc⟩⟩
        clear hc
        go_wp2
        go_meet
        case rel => exact ⟨true, rfl, rfl, HA0.out, rfl⟩
      · have he := isEmpty_pos hp
        have k1 : (((s[0]'hp).toNat : Int) == 45) = false := by rw [byt_in hp]; exact beq_eq_false_iff_ne.2 (by omega)
        have HA0 : Hid (At s 0) := Lib.hid ⟨by omega, .inl ⟨rfl, hc⟩⟩
        clear hc
        go_wp2
        go_meet
        case rel => exact ⟨false, rfl, rfl, HA0.out, rfl⟩
    case rest =>
      obtain ⟨c, rfl, rfl, hA0, hW0⟩ := hcut
      subst hW0
      have HA0 := Lib.hid hA0
      clear hA0 HCS
      go_upto_if 20 with (fail)
      go_cut [4] from 10 to 20 (fun s4 wd => ∃ a : Nat, s4 = .int .i64 a ∧ At s a ∧ wd = w.alloc (.cells #[.bool false, .string ⟨#[]⟩, .int .i64 0] 31))
      case first =>
        cases c
        · go_wp2
          go_meet
          case rel => exact ⟨0, rfl, HA0.out, rfl⟩
        · go_wp2
          go_meet
          case rel => exact ⟨1, rfl, HA0.out, rfl⟩
      case rest =>
        obtain ⟨a, rfl, hA, hW⟩ := hcut
        subst hW
        obtain ⟨W, hW⟩ : ∃ W, W = w.alloc (.cells #[.bool false, .string ⟨#[]⟩, .int .i64 0] 31) := ⟨_, rfl⟩
        rw [← hW] at hKW ⊢
        have zf0 := hKW.out.2.frozen 0
        have zf1 := hKW.out.2.frozen 1
        have zf2 := hKW.out.2.frozen 2
        have zq0 := hKW.out.2.c0
        have zq1 := hKW.out.2.c1
        have zq2 := hKW.out.2.c2
        have zn0 := (hKW.out.2.set0 false).c0
        have zn1 := ((hKW.out.2.set0 false).set1 ⟨#[]⟩).c1
        have zn2 := (((hKW.out.2.set0 false).set1 ⟨#[]⟩).set2 0).c2
        have hno2 := Lib.hid (DecOf.no (s := s) (((hKW.out.1.setCell (a := ⟨w.heap.size, 0, none⟩) (fun h => absurd h (Nat.lt_irrefl _)) (.bool false)).setCell (a := ⟨w.heap.size, 1, none⟩) (fun h => absurd h (Nat.lt_irrefl _)) (.string ⟨#[]⟩)).setCell (a := ⟨w.heap.size, 2, none⟩) (fun h => absurd h (Nat.lt_irrefl _)) (.int .i64 0)))
        clear q0 q1 q2 hno
        have hr := jRun_any s a W hA.1 (by omega)
        have HRr := Lib.hid hr
        clear hr hW
        go_wp2_with fail
        refine HRr.out.mono ?_
        rintro e w' ⟨k, rfl, hR, rfl⟩
        have b1 := hR.lo
        have b2 := hR.hi
        have i1 : (a : Int) ≤ k := by omega
        have i2 : (k : Int) ≤ s.size := by omega
        have hpp := jPlain_any (s.extract a k) W (by rw [ByteArray.size_extract]; omega)
        have HPp := Lib.hid hpp
        clear hpp HRr
        go_wp2_with fail
        refine HPp.out.mono ?_
        rintro e w' ⟨pb, rfl, hpb, rfl⟩
        have HPb := Lib.hid hpb
        clear hpb HPp
        cases pb
        · go_wp2
          refine bodyPost_ret (v := .tuple #[dec3 false ⟨#[]⟩ 0, .bool false]) (by simp [dec3, results, Tryz.results9, go_sem, zn0, zn1, zn2]) rfl ?_
          exact hno2.out
        · have hpl := plain_at b2 (HPb.out (by first | rfl | trivial))
          have HP := Lib.hid (And.intro hR hpl)
          clear hR HPb
          have hak := hpl.1
          clear hpl
          have hcase2 : (k < s.size ∧ byt s k = 46) ∨ ¬ (k < s.size ∧ byt s k = 46) := Decidable.em _
          rcases hcase2 with ⟨hlt, hb⟩ | hnb
          · have kk1 : (((s[k]'hlt).toNat : Int) == 46) = true := by rw [byt_in hlt, hb]; rfl
            have l1 : (k : Int) < s.size := by omega
            have hr2 := jRun_any s (k + 1) W (by omega) (by omega)
            have HR2r := Lib.hid hr2
            have HB := Lib.hid hb
            clear hr2 hb
            go_wp2_with fail
            refine HR2r.out.mono ?_
            rintro e w' ⟨p, rfl, hR2, rfl⟩
            have HR2 := Lib.hid (And.intro hR2 HB.out)
            have b3 := hR2.lo
            have b4 := hR2.hi
            clear hR2 HR2r
            by_cases hpe : p = k + 1
            · have t1 : ((p : Int) == (k : Int) + 1) = true := by rw [beq_iff_eq]; omega
              clear hpe
              go_wp2
              refine bodyPost_ret (v := .tuple #[dec3 false ⟨#[]⟩ 0, .bool false]) (by simp [dec3, results, Tryz.results9, go_sem, zn0, zn1, zn2]) rfl ?_
              exact hno2.out
            · have t1 : ((p : Int) == (k : Int) + 1) = false := beq_eq_false_iff_ne.2 (by omega)
              have t2 : (k : Int) < p := by omega
              have t3 : (k : Int) + 1 ≤ p := by omega
              have t4 : (p : Int) ≤ s.size := by omega
              have hje := jExponent_any (s.extract p s.size) W (by rw [ByteArray.size_extract]; omega)
              have lp : (p : Int) ≤ s.size := by omega
              have HJ := Lib.hid hje
              clear hje
              go_wp2_with fail
              refine HJ.out.mono ?_
              rintro e w' ⟨v, xb, rfl, v1, v2, hxb, rfl⟩
              have HX := Lib.hid hxb
              clear hxb HJ
              cases xb
              · go_wp2
                refine bodyPost_ret (v := .tuple #[dec3 false ⟨#[]⟩ 0, .bool false]) (by simp [dec3, results, Tryz.results9, go_sem, zn0, zn1, zn2]) rfl ?_
                exact hno2.out
              · have hlean := fun m => jLean_any m (s.extract a k ++ s.extract (k + 1) p) (v - ((p : Int) - k - 1)) W (by rw [ByteArray.size_append, ByteArray.size_extract, ByteArray.size_extract, Nat.min_eq_left (by omega), Nat.min_eq_left (by omega)]; omega) (by omega) (by omega)
                have hszD : ((s.extract a k ++ s.extract (k + 1) p).size ≤ 40) := by rw [ByteArray.size_append, ByteArray.size_extract, ByteArray.size_extract, Nat.min_eq_left (by omega), Nat.min_eq_left (by omega)]; omega
                have HL := Lib.hid hlean
                clear hlean
                go_wp2_with fail
                refine (HL.out _).mono ?_
                rintro e w5 ⟨m, u, x, rfl, u1, u2, u3, x1, x2, hc5⟩
                unfold dec3
                have hD5 := hKW.out.2.keep hc5 (fun h => h)
                have p0 := hD5.c0
                have p1 := hD5.c1
                have p2 := hD5.c2
                have f0 := hD5.frozen 0
                have f1 := hD5.frozen 1
                have f2 := hD5.frozen 2
                have r0 := (hD5.set0 m).c0
                have r1 := ((hD5.set0 m).set1 u).c1
                have r2 := (((hD5.set0 m).set1 u).set2 x).c2
                have hcs : Chg (fun _ => False) w (((w5.setCell ⟨w.heap.size, 0, none⟩ (.bool m)).setCell ⟨w.heap.size, 1, none⟩ (.string u)).setCell ⟨w.heap.size, 2, none⟩ (.int .i64 x)) :=
                  (((hKW.out.1.trans hc5 (fun _ h => h) (fun _ _ h => h)).setCell (a := ⟨w.heap.size, 0, none⟩) (fun h => absurd h (Nat.lt_irrefl _)) _).setCell (a := ⟨w.heap.size, 1, none⟩) (fun h => absurd h (Nat.lt_irrefl _)) _).setCell (a := ⟨w.heap.size, 2, none⟩) (fun h => absurd h (Nat.lt_irrefl _)) _
                have HF : Hid (DecOf s w (.returned (.tuple #[dec3 m u x, .bool true])) (((w5.setCell ⟨w.heap.size, 0, none⟩ (.bool m)).setCell ⟨w.heap.size, 1, none⟩ (.string u)).setCell ⟨w.heap.size, 2, none⟩ (.int .i64 x))) := by
                  have hxp := HX.out (by first | rfl | trivial)
                  obtain ⟨hR, hpl⟩ := HP.out
                  have hR2 := HR2.out.1
                  have hM : Mant s a (p - a) (some (k - a)) := mant_point hR hpl.1 hpl.2 HR2.out.2 hR2 (fun hlt => by
                    obtain ⟨E, hE⟩ := expo_of hR2.hi hxp
                    exact hE.stop hlt)
                  have e1 : a + (p - a) = p := by have := hR.lo; have := hR2.lo; omega
                  exact Lib.hid (DecOf.yes h40 hA hM (by rw [e1]; exact expo_of hR2.hi hxp) (zer_point hR hR2 HR2.out.2 hM) (by omega) u2 u3 (by omega) x2 hcs)
                clear hcs hc5 hD5 u1 u2 u3
                go_wp2
                refine bodyPost_ret (v := .tuple #[dec3 m u x, .bool true]) (by simp [dec3, results, Tryz.results9, go_sem, r0, r1, r2]) rfl ?_
                exact HF.out
          · have hsub : k = s.size ∨ ∃ hlt : k < s.size, byt s k ≠ 46 := by
              by_cases h : k = s.size
              · exact .inl h
              · exact .inr ⟨by omega, fun e => hnb ⟨by omega, e⟩⟩
            clear hnb
            rcases hsub with hks | ⟨hlt, hb⟩
            case' inl =>
              have l1 : ¬ (k : Int) < s.size := by omega
              clear hks
            case' inr =>
              have l1 : (k : Int) < s.size := by omega
              have kk1 : (((s[k]'hlt).toNat : Int) == 46) = false := by rw [byt_in hlt]; exact beq_eq_false_iff_ne.2 (by omega)
              clear hb
            all_goals
              have hje := jExponent_any (s.extract k s.size) W (by rw [ByteArray.size_extract]; omega)
              have lp : (k : Int) ≤ s.size := by omega
              have HJ := Lib.hid hje
              clear hje
              go_wp2_with fail
              refine HJ.out.mono ?_
              rintro e w' ⟨v, xb, rfl, v1, v2, hxb, rfl⟩
              have HX := Lib.hid hxb
              clear hxb HJ
              cases xb
              · go_wp2
                refine bodyPost_ret (v := .tuple #[dec3 false ⟨#[]⟩ 0, .bool false]) (by simp [dec3, results, Tryz.results9, go_sem, zn0, zn1, zn2]) rfl ?_
                exact hno2.out
              · have hlean := fun m => jLean_any m (s.extract a k) (v) W (by rw [ByteArray.size_extract, Nat.min_eq_left (by omega)]; omega) (by omega) (by omega)
                have hszD : ((s.extract a k).size ≤ 40) := by rw [ByteArray.size_extract, Nat.min_eq_left (by omega)]; omega
                have HL := Lib.hid hlean
                clear hlean
                go_wp2_with fail
                refine (HL.out _).mono ?_
                rintro e w5 ⟨m, u, x, rfl, u1, u2, u3, x1, x2, hc5⟩
                unfold dec3
                have hD5 := hKW.out.2.keep hc5 (fun h => h)
                have p0 := hD5.c0
                have p1 := hD5.c1
                have p2 := hD5.c2
                have f0 := hD5.frozen 0
                have f1 := hD5.frozen 1
                have f2 := hD5.frozen 2
                have r0 := (hD5.set0 m).c0
                have r1 := ((hD5.set0 m).set1 u).c1
                have r2 := (((hD5.set0 m).set1 u).set2 x).c2
                have hcs : Chg (fun _ => False) w (((w5.setCell ⟨w.heap.size, 0, none⟩ (.bool m)).setCell ⟨w.heap.size, 1, none⟩ (.string u)).setCell ⟨w.heap.size, 2, none⟩ (.int .i64 x)) :=
                  (((hKW.out.1.trans hc5 (fun _ h => h) (fun _ _ h => h)).setCell (a := ⟨w.heap.size, 0, none⟩) (fun h => absurd h (Nat.lt_irrefl _)) _).setCell (a := ⟨w.heap.size, 1, none⟩) (fun h => absurd h (Nat.lt_irrefl _)) _).setCell (a := ⟨w.heap.size, 2, none⟩) (fun h => absurd h (Nat.lt_irrefl _)) _
                have HF : Hid (DecOf s w (.returned (.tuple #[dec3 m u x, .bool true])) (((w5.setCell ⟨w.heap.size, 0, none⟩ (.bool m)).setCell ⟨w.heap.size, 1, none⟩ (.string u)).setCell ⟨w.heap.size, 2, none⟩ (.int .i64 x))) := by
                  have hxp := HX.out (by first | rfl | trivial)
                  obtain ⟨hR, hpl⟩ := HP.out
                  have hM : Mant s a (k - a) none := mant_whole hR hpl.1 hpl.2 (fun hlt => by
                    obtain ⟨E, hE⟩ := expo_of hR.hi hxp
                    exact hE.stop hlt)
                  have e1 : a + (k - a) = k := by have := hR.lo; omega
                  exact Lib.hid (DecOf.yes h40 hA hM (by rw [e1]; exact expo_of hR.hi hxp) (zer_whole hR hM) (by omega) u2 u3 (by omega) x2 hcs)
                clear hcs hc5 hD5 u1 u2 u3
                go_wp2
                refine bodyPost_ret (v := .tuple #[dec3 m u x, .bool true]) (by simp [dec3, results, Tryz.results9, go_sem, r0, r1, r2]) rfl ?_
                exact HF.out
end Go.Proofs.YtbnmgopobmiadaaGreatDoor
