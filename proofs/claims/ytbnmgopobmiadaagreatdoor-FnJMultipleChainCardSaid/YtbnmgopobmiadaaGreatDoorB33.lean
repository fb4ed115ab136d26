/- Contracts of Rat.IsInt, Int.scaleDenom. -/
import Derived.Test.YtbnmgopobmiadaaGreatDoorB32
import Derived.Test.YtbnmgopobmiadaaGreatDoorB9

set_option linter.unusedSimpArgs false
set_option linter.unusedVariables false

namespace Go.Proofs.YtbnmgopobmiadaaGreatDoor
open Go.RowKit

theorem natOne' (w : World) : Calls Tryz.prog 136 #[] w fun e w' => ∃ v, e = .returned v ∧ Nv w' v 1 ∧ Chg (fun _ => False) w w' :=
  (natOne w).mono fun e w' ⟨he, hw⟩ => by subst hw; exact ⟨_, he, Nv.new w 1 (by omega) one_lt_B, (Chg.refl _ w).alloc _⟩

set_option maxHeartbeats 4000000 in
set_option maxRecDepth 100000 in
theorem ratIsInt (b : Nat) (sa sb : Bool) (va vb : Value) (X Y : Nat) (w : World) (h : Rm w b sa va X sb vb Y) (hY0 : Y ≠ 0) (hY : wlen Y ≤ 10000) :
    Calls Tryz.prog 105 #[.pointer (some ⟨b, 0, none⟩)] w (fun e w' => e = .returned (.bool (decide (Y = 1))) ∧ Chg (fun _ => False) w w') := by
  have c3 := h.blk.c3
  obtain ⟨yb, yc, rfl, y1, y2, y3, y4⟩ := h.nb.pos hY0
  have hyp : ((wlen Y : Int) == 0) = false := beq_eq_false_iff_ne.2 (by have := mt wlen_eq_zero.1 hY0; omega)
  have hv : (cmpN Y 1 == 0) = decide (Y = 1) := by
    by_cases e : Y = 1
    · rw [e]; rfl
    · rw [decide_eq_false e]
      unfold cmpN
      rw [if_neg (by omega), if_pos (by omega)]; rfl
  have hcmp : ∀ w' v, Nv w' v 1 → Chg (fun _ => False) w w' → Calls Tryz.prog 126 #[.slice (some ⟨yb, 0, none⟩) (wlen Y) yc, v] w' (Drawn (.int .i64 (cmpN Y 1)) w') := fun w' v h1 h2 =>
    cmp_any _ v Y 1 w' (h.nb.keep h2 (fun _ _ h => h)) h1 (by omega) (by rw [wlen_one (by omega) one_lt_B]; omega)
  have HC := Lib.hid hcmp
  have HK := Lib.hid hv
  clear h hcmp hv y1 y2 y3 y4 hY0 hY
  generalize cmpN Y 1 = c at *
  go_enter Tryz.func105, Tryz.ntmps105
  go_wp2
  go_region_with (first | (go_at_call 136; refine (natOne' _).mono ?_; rintro e w3 ⟨v, rfl, hv, hc3⟩; have d3 := hc3.cell (a := ⟨b, 3, none⟩) c3 (fun h => h)) | (go_at_call 126; refine (HC.out _ _ hv (Chg.undrew hc3)).mono ?_; rintro e w4 ⟨rfl, nd, rfl⟩))
  all_goals
    go_wp2
    go_ret
    exact ⟨by rw [← HK.out]; rfl, (Chg.undrew hc3).drewN nd⟩

set_option maxHeartbeats 4000000 in
set_option maxRecDepth 100000 in
theorem scaleDenom (bz bx ox : Nat) (sx : Bool) (stk vx vf : Value) (X F : Nat) (w : World) (hz : Im w bz false (.slice none 0 0) 0) (hx : Ir w bx ox sx vx X) (hf : Nv w vf F) (hF0 : F ≠ 0) (hX : wlen X < 40) (hF : wlen F < 40)
    (hG : w.cell? ⟨3, 0, none⟩ = some (.int .i64 40)) (hne : bx ≠ bz) :
    Calls Tryz.prog 165 #[.pointer (some ⟨bz, 0, none⟩), stk, .pointer (some ⟨bx, ox, none⟩), vf] w (ImGives bz (.slice none 0 0) sx (X * F) (.tuple #[]) w) := by
  have c0 := hx.c0
  have c1 := hx.c1
  have d1 := hz.blk.c1
  have hn : ∀ k, (Value.slice none 0 0).ownBlock = some k → False := fun k h => by simp [Value.ownBlock] at h
  have hmul := mul_any (.slice none 0 0) stk vx vf X F w.drew hz.nv.st hx.nv hf hX hF hG (.inl ⟨fun k _ h => hn k h, fun k _ h => hn k h⟩)
  obtain ⟨fa, fc, rfl⟩ := hf.shape
  have hfp : ((wlen F : Int) == 0) = false := beq_eq_false_iff_ne.2 (by have := mt wlen_eq_zero.1 hF0; omega)
  have HM := Lib.hid hmul
  have HZ := Lib.hid (And.intro hz (And.intro hx (And.intro hne hn)))
  clear hz hx hne hn hmul hX hF hF0 hf hG
  generalize wlen F = lf at *
  go_enter Tryz.func165, Tryz.ntmps165
  go_wp2
  go_region_with (go_at_call 47; refine HM.out.mono ?_; rintro e w2 ⟨v, rfl, hv, hc, ho⟩; obtain ⟨a, c, rfl⟩ := hv.shape; have hp := HZ.out.1.blk.keep hc.undrew (fun hk => HZ.out.1.own hk); have d2 := hp.c1; have d3 := hp.frozen 1)
  all_goals
    have hp' := (Pair.set1 hp (.slice a (wlen (X * F)) c))
    have f0 := hp'.c0
    have f1 := hp'.frozen 0
    have f2 : (w2.setCell ⟨bz, 1, none⟩ (.slice a (wlen (X * F)) c)).cell? ⟨bx, ox, none⟩ = some (.bool sx) := by
      rw [cell_set_ne _ _ _ _ _ _ (.inl HZ.out.2.2.1)]
      exact hc.undrew.cell c0 (fun h => HZ.out.2.2.2 _ h)
    have HR := Lib.hid (im_gives (s' := sx) HZ.out.1 hv hc.undrew ho (.tuple #[]) (.returned (.tuple #[])) rfl)
    clear hv hc ho hp d2 d3 hp'
    go_wp2
    go_end0
    exact HR.out
end Go.Proofs.YtbnmgopobmiadaaGreatDoor

/- Contract of Rat.Quo. -/
namespace Go.Proofs.YtbnmgopobmiadaaGreatDoor
open Go.RowKit

/-- what Quo leaves in a new Rat -/
def Quod (b : Nat) (P Q : Nat) (w : World) (e : Ending) (w' : World) : Prop :=
  e = .returned (.pointer (some ⟨b, 0, none⟩)) ∧ ∃ s va vb, Rm w' b s va (P / Nat.gcd P Q) false vb (Q / Nat.gcd P Q) ∧ Chg (fun k => k = b) w w'

theorem Rm.keepF {w w' : World} {b : Nat} {sa sb : Bool} {va vb : Value} {X Y : Nat} (h : Rm w b sa va X sb vb Y) (hc : Chg (fun _ => False) w w') : Rm w' b sa va X sb vb Y := h.keep hc (fun _ _ h => h)

/-- two new Ints' words are stored in a Rat -/
theorem quo_store {w5 : World} {b pa pb P Q : Nat} {s1 s2 : Bool} {v1 v2 : Value} (h : Row4 w5 b (.bool false) (.slice none 0 0) (.bool false) (.slice none 0 0)) (i1 : Im w5 pa s1 v1 P) (i2 : Im w5 pb s2 v2 Q) (hd : Dis pa v1 pb v2)
    (hb1 : ¬ Reg pa v1 b) (hb2 : ¬ Reg pb v2 b) (s : Bool) :
    Rm (((w5.setCell ⟨b, 1, none⟩ v1).setCell ⟨b, 3, none⟩ v2).setCell ⟨b, 0, none⟩ (.bool s)) b s v1 P false v2 Q := by
  have hc : Chg (fun k => k = b) w5 (((w5.setCell ⟨b, 1, none⟩ v1).setCell ⟨b, 3, none⟩ v2).setCell ⟨b, 0, none⟩ (.bool s)) :=
    (((Chg.refl (fun k => k = b) w5).setCell (a := ⟨b, 1, none⟩) (fun _ => rfl) _).setCell (a := ⟨b, 3, none⟩) (fun _ => rfl) _).setCell (a := ⟨b, 0, none⟩) (fun _ => rfl) _
  exact ⟨((h.set1 v1).set3 v2).set0 _, i1.nv.keep hc (fun k hk e => hb1 (e ▸ .inr hk)), i2.nv.keep hc (fun k hk e => hb2 (e ▸ .inr hk)), fun e => hb1 (.inr e), fun e => hb2 (.inr e), fun k h1 h2 => hd k (.inr h1) (.inr h2)⟩

set_option maxHeartbeats 8000000 in
set_option maxRecDepth 100000 in
theorem ratQuo (b bx b_y : Nat) (sx tx sy ty : Bool) (xa xb ya yb : Value) (Xa Xb Ya Yb : Nat) (w : World) (hz : Row4 w b (.bool false) (.slice none 0 0) (.bool false) (.slice none 0 0)) (hx : Rm w bx sx xa Xa tx xb Xb) (hy : Rm w b_y sy ya Ya ty yb Yb)
    (hne : bx ≠ b) (hne2 : b_y ≠ b) (h1 : Xa ≠ 0) (h2 : Xb ≠ 0) (h3 : Ya ≠ 0) (h4 : Yb ≠ 0) (l1 : wlen Xa < 40) (l2 : wlen Xb < 40) (l3 : wlen Ya < 40) (l4 : wlen Yb < 40) (l5 : wlen (Xa * Yb) < 40) (l6 : wlen (Ya * Xb) < 40)
    (hG3 : w.cell? ⟨3, 0, none⟩ = some (.int .i64 40)) (hG7 : w.cell? ⟨7, 0, none⟩ = some (.int .i64 40)) (hb7 : b ≠ 7) :
    Calls Tryz.prog 117 #[.pointer (some ⟨b, 0, none⟩), .pointer (some ⟨bx, 0, none⟩), .pointer (some ⟨b_y, 0, none⟩)] w (Quod b (Xa * Yb) (Ya * Xb) w) := by
  have c1 := hy.blk.c1
  obtain ⟨ay, ac, hays⟩ := hy.na.shape
  have hyp : ((wlen Ya : Int) == 0) = false := beq_eq_false_iff_ne.2 (by have := mt wlen_eq_zero.1 h3; omega)
  have hgs := getStack w
  have HZ := Lib.hid (And.intro hz (And.intro hx (And.intro hy (And.intro hne (And.intro hne2 (And.intro h1 (And.intro h2 (And.intro h3 (And.intro h4 (And.intro l1 (And.intro l2 (And.intro l3 (And.intro l4 (And.intro l5 (And.intro l6 (And.intro hG3 (And.intro hG7 hb7)))))))))))))))))
  rw [hays] at c1
  clear hz hx hy hne hne2 h1 h2 h3 h4 l1 l2 l3 l4 l5 l6 hG3 hG7 hb7 hays
  obtain ⟨ly, hly⟩ : ∃ l, l = wlen Ya := ⟨_, rfl⟩
  rw [← hly] at c1 hyp
  clear hly
  go_enter_defers Tryz.func117, Tryz.ntmps117
  go_wp2_with fail
  refine hgs.mono ?_
  rintro e w1 ⟨rfl, hS, hc, hsz⟩
  obtain ⟨sk, hsk⟩ : ∃ s, s = w.heap.size := ⟨_, rfl⟩
  rw [← hsk] at hS ⊢
  obtain ⟨hz, hx, hy, hne, hne2, h1, h2, h3, h4, l1, l2, l3, l4, l5, l6, hG3, hG7, hb7⟩ := HZ.out
  have c1' := hc.cell c1 (fun h => h)
  have k3 : Chg (fun _ => False) w ((w1.alloc (.cells #[.bool false, .slice none 0 0] 84)).alloc (.cells #[.bool false, .slice none 0 0] 84)) := (hc.alloc _).alloc _
  have i3 := Im.new (w1.alloc (.cells #[.bool false, .slice none 0 0] 84))
  rw [alloc_size] at i3
  have i3a : Im ((w1.alloc (.cells #[.bool false, .slice none 0 0] 84)).alloc (.cells #[.bool false, .slice none 0 0] 84)) w1.heap.size false (.slice none 0 0) 0 := (Im.new w1).keep ((Chg.refl (fun _ => False) _).alloc _) (fun _ _ h => h)
  have s3 : Stk ((w1.alloc (.cells #[.bool false, .slice none 0 0] 84)).alloc (.cells #[.bool false, .slice none 0 0] 84)) sk 0 (fun k => k = sk) := hS.keep (((Chg.refl (fun _ => False) w1).alloc _).alloc _) (fun _ _ h => h)
  obtain ⟨w3, hw3⟩ : ∃ w3, w3 = (w1.alloc (.cells #[.bool false, .slice none 0 0] 84)).alloc (.cells #[.bool false, .slice none 0 0] 84) := ⟨_, rfl⟩
  rw [← hw3] at k3 i3 i3a s3
  have y3 := (hy.keepF k3).blk.c3
  have hsd := scaleDenom w1.heap.size bx 0 sx (.pointer (some ⟨sk, 0, none⟩)) xa yb Xa Yb w3.drew (i3a.keep (Chg.refl (fun _ => False) w3).drew (fun _ _ h => h)) (hx.keepF k3.drew).ira (hy.keepF k3.drew).nb h4 l1 l4 (k3.drew.cell hG3 (fun h => h)) (by have := hx.blk.lt; omega)
  have H1 := Lib.hid (And.intro k3 (And.intro i3 (And.intro i3a (And.intro s3 (And.intro hsz hsk)))))
  have HD := Lib.hid hsd
  clear hz hx hy hne hne2 h1 h2 h3 h4 l1 l2 l3 l4 l5 l6 hG3 hG7 hb7 k3 i3 i3a s3 hsd hS hc hsz c1 hgs hsk
  go_wp2
  rw [← hw3]
  clear hw3 c1' hyp
  go_cut [] from 10 (fun wc => ImGives w1.heap.size (.slice none 0 0) sx (Xa * Yb) (.tuple #[]) w3.drew (.returned (.tuple #[])) wc)
  case first =>
    refine wp_region_noPanic ?_
    go_region_with (go_at_call 165; refine HD.out.mono ?_; rintro e w4 ⟨rfl, hg⟩)
    all_goals
      refine NoPanic.normal ?_
      go_wp2
      go_meet
      case rel => exact ⟨rfl, hg⟩
  case rest =>
    obtain ⟨wA, hwA⟩ : ∃ x, x = wc := ⟨_, rfl⟩
    subst hwA
    obtain ⟨_, v1, g1, g2, g3⟩ := hcut
    obtain ⟨hz, hx, hy, hne, hne2, h1, h2, h3, h4, l1, l2, l3, l4, l5, l6, hG3, hG7, hb7⟩ := HZ.out
    obtain ⟨k3, i3, i3a, s3, hsz, hsk⟩ := H1.out
    have hn : ∀ k, (Value.slice none 0 0).ownBlock = some k → False := fun k h => by simp [Value.ownBlock] at h
    have kA : Chg (fun _ => False) w wA := k3.trans g2.undrew (fun _ h => h) (fun k hk h => by
      rcases h with h | h
      · omega
      · exact hn k h)
    have i3A : Im wA (w1.heap.size + 1) false (.slice none 0 0) 0 := i3.keep g2.undrew (fun k hk h => by
      rcases hk with hk | hk
      · rcases h with h | h
        · omega
        · exact hn k h
      · exact hn k hk)
    have sA : Stk wA sk 0 (fun k => k = sk) := s3.keep g2.undrew (fun k hk h => by
      rcases h with h | h
      · omega
      · exact hn k h)
    have x3 := (hx.keepF kA).blk.c3
    have hsd := scaleDenom (w1.heap.size + 1) b_y 0 sy (.pointer (some ⟨sk, 0, none⟩)) ya xb Ya Xb wA.drew (i3A.keep (Chg.refl (fun _ => False) wA).drew (fun _ _ h => h)) (hy.keepF kA.drew).ira (hx.keepF kA.drew).nb h2 l3 l2 (kA.drew.cell hG3 (fun h => h)) (by have := hy.blk.lt; omega)
    have hs3 := k3.size
    have g3' : ∀ k, v1.ownBlock = some k → w3.heap.size ≤ k := fun k hk => (g3 k hk).elim (fun h => (hn k h).elim) id
    have s33 := i3.blk.lt
    have H2 := Lib.hid (And.intro g1 (And.intro g3' (And.intro kA (And.intro i3A (And.intro sA (And.intro hn s33))))))
    have HD2 := Lib.hid hsd
    clear hz hx hy hne hne2 h1 h2 h3 h4 l1 l2 l3 l4 l5 l6 hG3 hG7 hb7 k3 i3 i3a s3 hsz hsk g1 g2 g3 g3' kA i3A sA hsd hn hs3 s33 y3
    go_wp2
    go_cut [] from 10 (fun wd => ImGives (w1.heap.size + 1) (.slice none 0 0) sy (Ya * Xb) (.tuple #[]) wA.drew (.returned (.tuple #[])) wd)
    case first =>
      refine wp_region_noPanic ?_
      go_region_with (go_at_call 165; refine HD2.out.mono ?_; rintro e w4 ⟨rfl, hg⟩)
      all_goals
        refine NoPanic.normal ?_
        go_wp2
        go_meet
        case rel => exact ⟨rfl, hg⟩
    case rest =>
      obtain ⟨wB, hwB⟩ : ∃ x, x = wc := ⟨_, rfl⟩
      subst hwB
      obtain ⟨_, v2, f1, f2, f3⟩ := hcut
      obtain ⟨hz, hx, hy, hne, hne2, h1, h2, h3, h4, l1, l2, l3, l4, l5, l6, hG3, hG7, hb7⟩ := HZ.out
      obtain ⟨k3, i3, i3a, s3, hsz, hsk⟩ := H1.out
      obtain ⟨g1, g3', kA, i3A, sA, hn, s33⟩ := H2.out
      have hbl := hz.lt
      have kB : Chg (fun _ => False) w wB := kA.trans f2.undrew (fun _ h => h) (fun k hk h => by
        rcases h with h | h
        · omega
        · exact hn k h)
      have i1 : Im wB w1.heap.size sx v1 (Xa * Yb) := g1.keep f2.undrew (fun k hk h => by
        rcases h with h | h
        · rcases hk with hk | hk
          · omega
          · have := g3' k hk; omega
        · exact hn k h)
      have sB : Stk wB sk 0 (fun k => k = sk) := sA.keep f2.undrew (fun k hk h => by
        rcases h with h | h
        · omega
        · exact hn k h)
      have f3' : ∀ k, v2.ownBlock = some k → wA.heap.size ≤ k := fun k hk => (f3 k hk).elim (fun h => (hn k h).elim) id
      have hdis : Dis w1.heap.size v1 (w1.heap.size + 1) v2 := fun k k1 k2 => by
        have a1 := g1.lt k k1
        have a3 := i3A.blk.lt
        rcases k1 with k1 | k1
        · rcases k2 with k2 | k2
          · omega
          · have := f3' k k2; omega
        · have a2 := g3' k k1
          rcases k2 with k2 | k2
          · omega
          · have := f3' k k2; omega
      have hb1 : ¬ Reg w1.heap.size v1 b := fun h => by
        rcases h with h | h
        · omega
        · have := g3' b h; omega
      have hb2 : ¬ Reg (w1.heap.size + 1) v2 b := fun h => by
        have hsA := kA.size
        rcases h with h | h
        · omega
        · have := f3' b h; omega
      have hr := hz.keep kB (fun h => h)
      have hst := quo_store hr i1 f1 hdis hb1 hb2 (!(sx == sy))
      have hP : Xa * Yb ≠ 0 := Nat.mul_ne_zero h1 h4
      have hQ : Ya * Xb ≠ 0 := Nat.mul_ne_zero h3 h2
      obtain ⟨a1, a2, rfl⟩ := i1.nv.shape
      obtain ⟨e1, e2, rfl⟩ := f1.nv.shape
      generalize hV1 : Value.slice a1 (wlen (Xa * Yb)) a2 = V1 at *
      generalize hV2 : Value.slice e1 (wlen (Ya * Xb)) e2 = V2 at *
      have u0 := hr.frozen 1
      have u1 := i1.blk.c1
      have u00 := hr.c1
      have r1 := hr.set1 V1
      have u2 : (wB.setCell ⟨b, 1, none⟩ V1).cell? ⟨w1.heap.size + 1, 1, none⟩ = some V2 := by rw [cell_set_ne _ _ _ _ _ _ (.inl (fun h => hb2 (.inl h.symm)))]; exact f1.blk.c1
      have u3 := r1.c3
      have u33 := r1.frozen 3
      have r2 := r1.set3 V2
      have u4 : ((wB.setCell ⟨b, 1, none⟩ V1).setCell ⟨b, 3, none⟩ V2).cell? ⟨w1.heap.size, 0, none⟩ = some (.bool sx) := by
        rw [cell_set_ne _ _ _ _ _ _ (.inl (fun h => hb1 (.inl h.symm))), cell_set_ne _ _ _ _ _ _ (.inl (fun h => hb1 (.inl h.symm)))]; exact i1.blk.c0
      have u5 : ((wB.setCell ⟨b, 1, none⟩ V1).setCell ⟨b, 3, none⟩ V2).cell? ⟨w1.heap.size + 1, 0, none⟩ = some (.bool sy) := by
        rw [cell_set_ne _ _ _ _ _ _ (.inl (fun h => hb2 (.inl h.symm))), cell_set_ne _ _ _ _ _ _ (.inl (fun h => hb2 (.inl h.symm)))]; exact f1.blk.c0
      have u6 := r2.c0
      have u66 := r2.frozen 0
      have hCB : Chg (fun k => k = b) wB (((wB.setCell ⟨b, 1, none⟩ V1).setCell ⟨b, 3, none⟩ V2).setCell ⟨b, 0, none⟩ (.bool (!(sx == sy)))) :=
        (((Chg.refl (fun k => k = b) wB).setCell (a := ⟨b, 1, none⟩) (fun _ => rfl) _).setCell (a := ⟨b, 3, none⟩) (fun _ => rfl) _).setCell (a := ⟨b, 0, none⟩) (fun _ => rfl) _
      have h7l := seven_lt hG7
      have hsA := i3A.blk.lt
      have hnorm := ratNorm b (!(sx == sy)) false V1 V2 (Xa * Yb) (Ya * Xb) _ hst hP hQ l5 l6 (hCB.cell (kB.cell hG7 (fun h => h)) (fun e => hb7 e.symm)) (fun h => by
        rcases h with h | h | h
        · exact hb7 h.symm
        · have := g3' 7 h; omega
        · have := f3' 7 h; have := kA.size; omega)
      have HN := Lib.hid (And.intro hCB (And.intro kB (And.intro sB (And.intro g3' (And.intro f3' (And.intro hsA (And.intro hbl (And.intro hsz (And.intro hsk s33)))))))))
      subst hV1 hV2
      clear hst hz hx hy hne hne2 h1 h2 h3 h4 l1 l2 l3 l4 l5 l6 hG3 hG7 hb7 k3 i3 i3a s3 hsz hsk g1 f1 f2 f3 g3' f3' kA i3A sA hn s33 hbl kB i1 sB hdis hb1 hb2 hr hP hQ r1 r2 hCB h7l hsA x3
      obtain ⟨W5, hW5⟩ : ∃ W, W = ((wB.setCell ⟨b, 1, none⟩ (.slice a1 (wlen (Xa * Yb)) a2)).setCell ⟨b, 3, none⟩ (.slice e1 (wlen (Ya * Xb)) e2)).setCell ⟨b, 0, none⟩ (.bool (!(sx == sy))) := ⟨_, rfl⟩
      rw [← hW5] at hnorm HN
      go_wp2_with fail
      rw [← hW5]
      clear hW5 u0 u1 u00 u2 u3 u33 u4 u5 u6 u66
      refine hnorm.mono ?_
      rintro e w9 ⟨rfl, va', vb', m9, c9, o1, o2⟩
      clear hnorm
      have HM := Lib.hid (And.intro m9 c9)
      clear m9 c9 o1 o2
      go_wp2
      obtain ⟨m9, c9⟩ := HM.out
      obtain ⟨hCB, kB, sB, g3', f3', hsA, hbl, hsz, hsk, s33⟩ := HN.out
      have s9 : Stk w9 sk 0 (fun k => k = sk) := (sB.keep hCB (fun k hk e => by omega)).keep c9 (fun k hk h => by
        rcases h with h | h | h
        · omega
        · have := g3' k h; omega
        · have := f3' k h; omega)
      refine leaves_cons (f := 43) (args := #[.pointer (some ⟨sk, 0, none⟩)]) (by simp) (by simp [go_sem]) ?_
      refine (stack_free_d _ w9 sk 0 (fun k => k = sk) s9).mono ?_
      rintro e u' w10 ⟨rfl, hQ⟩
      have hfin : Quod b (Xa * Yb) (Ya * Xb) w (.returned (.pointer (some ⟨b, 0, none⟩))) w10 := by
        refine ⟨rfl, _, va', vb', ⟨m9.blk.keep hQ.2.1 (fun e => by omega), m9.na.quiet hQ, m9.nb.quiet hQ, m9.oa, m9.ob, m9.ab⟩, ?_⟩
        have q1 : Chg (fun k => k = b) w W5 := kB.trans hCB (fun _ h => h.elim) (fun _ _ h => h)
        have q2 : Chg (fun k => k = b) w w9 := q1.trans c9 (fun _ h => h) (fun k hk h => by
          rcases h with h | h | h
          · exact h
          · have := g3' k h; omega
          · have := f3' k h; omega)
        exact q2.trans hQ.2.1 (fun _ h => h) (fun k hk h => by omega)
      obtain rfl := hQ.1
      refine ⟨_, results_tmp rfl _ _ _, ?_⟩
      exact hfin
end Go.Proofs.YtbnmgopobmiadaaGreatDoor

/- Int.Sign, Rat.Sign of numbers that are not 0. -/
namespace Go.Proofs.YtbnmgopobmiadaaGreatDoor
open Go.RowKit

set_option maxRecDepth 100000 in
theorem intSign (b o : Nat) (s : Bool) (v : Value) (X : Nat) (w : World) (h : Ir w b o s v X) (hX : X ≠ 0) :
    Calls Tryz.prog 22 #[.pointer (some ⟨b, o, none⟩)] w fun e w' => (∃ n : Int, n ≠ 0 ∧ e = .returned (.int .i64 n)) ∧ w = w' := by
  have c0 := h.c0
  have c1 := h.c1
  obtain ⟨a, c, rfl⟩ := h.nv.shape
  have hp : ((wlen X : Int) == 0) = false := beq_eq_false_iff_ne.2 (by have := mt wlen_eq_zero.1 hX; omega)
  clear h hX
  generalize wlen X = l at *
  cases s
  · go_enter Tryz.func22, Tryz.ntmps22
    go_wp2
    go_ret
    exact ⟨⟨1, by omega, rfl⟩, rfl⟩
  · go_enter Tryz.func22, Tryz.ntmps22
    go_wp2
    go_ret
    exact ⟨⟨-1, by omega, rfl⟩, rfl⟩
set_option maxRecDepth 100000 in
theorem ratSign (b : Nat) (sa sb : Bool) (va vb : Value) (X Y : Nat) (w : World) (h : Rm w b sa va X sb vb Y) (hX : X ≠ 0) :
    Calls Tryz.prog 12 #[.pointer (some ⟨b, 0, none⟩)] w fun e w' => (∃ n : Int, n ≠ 0 ∧ e = .returned (.int .i64 n)) ∧ w = w' := by
  have hs := intSign b 0 sa va X w h.ira hX
  clear h
  go_enter Tryz.func12, Tryz.ntmps12
  go_wp2_with fail
  refine hs.mono ?_
  rintro e w' ⟨⟨n, hn, rfl⟩, rfl⟩
  go_wp2
  go_ret
  exact ⟨⟨n, hn, rfl⟩, rfl⟩
end Go.Proofs.YtbnmgopobmiadaaGreatDoor
