/- Contract of Int.QuoRem. -/
import Derived.Test.YtbnmgopobmiadaaGreatDoorB24
import Derived.Test.YtbnmgopobmiadaaGreatDoorB22
import Derived.BigRegion
import Derived.Deep.Cut

set_option linter.unusedSimpArgs false
set_option linter.unusedVariables false

namespace Go.Proofs.YtbnmgopobmiadaaGreatDoor
open Go.RowKit

/-- two Ints have nothing in common -/
def Dis (b : Nat) (v : Value) (b' : Nat) (v' : Value) : Prop := ∀ k, Reg b v k → ¬ Reg b' v' k

/-- what QuoRem leaves -/
def QR (bq br : Nat) (vq vr : Value) (Q R : Nat) (w : World) (e : Ending) (w' : World) : Prop :=
  e = .returned (.tuple #[.pointer (some ⟨bq, 0, none⟩), .pointer (some ⟨br, 0, none⟩)]) ∧ ∃ v v2, Im w' bq false v Q ∧ Im w' br false v2 R ∧ Chg (fun k => Reg bq vq k ∨ Reg br vr k) w w' ∧
    (∀ k, v.ownBlock = some k → vq.ownBlock = some k ∨ w.heap.size ≤ k) ∧ (∀ k, v2.ownBlock = some k → vr.ownBlock = some k ∨ w.heap.size ≤ k) ∧ (∀ k, v.ownBlock = some k → v2.ownBlock ≠ some k)

/-- behind the division: both slices are stored -/
def QMid (bq br : Nat) (vq vr : Value) (Q R : Nat) (w wc : World) : Prop :=
  ∃ v v2 w2, Div2 vq vr (fun _ => False) Q R w (.returned (.tuple #[v, v2])) w2 ∧ wc = (w2.setCell ⟨bq, 1, none⟩ v).setCell ⟨br, 1, none⟩ v2

set_option maxHeartbeats 16000000 in
set_option maxRecDepth 100000 in
theorem quoRem (bq ba bb br : Nat) (sq sr : Bool) (vq va vb vr : Value) (Q0 X Y R0 : Nat) (w : World) (hq : Im w bq sq vq Q0) (ha : Im w ba false va X) (hb : Im w bb false vb Y) (hr : Im w br sr vr R0)
    (hX : wlen X ≤ 10000) (hY : wlen Y < 40) (hY0 : Y ≠ 0) (hG : w.cell? ⟨7, 0, none⟩ = some (.int .i64 40)) (h7 : ¬ Reg br vr 7) (hqa : Dis bq vq ba va) (hqb : Dis bq vq bb vb) (hqr : Dis bq vq br vr) (hra : Dis br vr ba va) (hrb : Dis br vr bb vb) :
    Calls Tryz.prog 173 #[.pointer (some ⟨bq, 0, none⟩), .pointer (some ⟨ba, 0, none⟩), .pointer (some ⟨bb, 0, none⟩), .pointer (some ⟨br, 0, none⟩)] w (QR bq br vq vr (X / Y) (X % Y) w) := by
  have q1 := hq.blk.c1
  have r1 := hr.blk.c1
  have a0 := ha.blk.c0
  have a1 := ha.blk.c1
  have b0 := hb.blk.c0
  have b1 := hb.blk.c1
  have hdiv := div_nil vq vr va vb X Y w.drew hq.nv.st hr.nv.st ha.nv hb.nv hY0 hX hY hG (fun h => h7 (.inr h)) (fun k hk h => hqr k (.inr h) (.inr hk)) (fun _ k hk h => hqa k (.inr h) (.inr hk)) (fun k hk h => hra k (.inr h) (.inr hk)) (fun k hk h => hrb k (.inr h) (.inr hk))
  have HM := Lib.hid hdiv
  have HZ := Lib.hid (And.intro hq (And.intro ha (And.intro hb (And.intro hr (And.intro hqa (And.intro hqb (And.intro hqr (And.intro hra hrb))))))))
  clear hdiv hq ha hb hr hX hY hY0 hG h7 hqa hqb hqr hra hrb
  go_enter Tryz.func173, Tryz.ntmps173
  go_wp2
  obtain ⟨hq, ha, hb, hr, hqa, hqb, hqr, hra, hrb⟩ := HZ.out
  have n1 : bq ≠ ba := fun h => hqa bq (.inl rfl) (.inl h)
  have n2 : bq ≠ bb := fun h => hqb bq (.inl rfl) (.inl h)
  have n3 : br ≠ ba := fun h => hra br (.inl rfl) (.inl h)
  have n4 : br ≠ bb := fun h => hrb br (.inl rfl) (.inl h)
  have n5 : bq ≠ br := fun h => hqr bq (.inl rfl) (.inl h)
  have hkeep : ∀ w2 v v2, Div2 vq vr (fun _ => False) (X / Y) (X % Y) w.drew (.returned (.tuple #[v, v2])) w2 →
      w2.cell? ⟨ba, 1, none⟩ = some va ∧ w2.cell? ⟨bb, 1, none⟩ = some vb ∧ Pair w2 bq (.bool sq) vq ∧ Pair w2 br (.bool sr) vr := by
    rintro w2 v v2 ⟨_, _, _, _, _, hc, _⟩
    have hc' := hc.undrew
    refine ⟨hc'.cell a1 ?_, hc'.cell b1 ?_, hq.blk.keep hc' ?_, hr.blk.keep hc' ?_⟩
    · rintro (h | h | h); exact hqa ba (.inr h) (.inl rfl); exact hra ba (.inr h) (.inl rfl); exact h
    · rintro (h | h | h); exact hqb bb (.inr h) (.inl rfl); exact hrb bb (.inr h) (.inl rfl); exact h
    · rintro (h | h | h); exact hq.own h; exact hqr bq (.inl rfl) (.inr h); exact h
    · rintro (h | h | h); exact hqr br (.inr h) (.inl rfl); exact hr.own h; exact h
  have HKP := Lib.hid hkeep
  clear hq ha hb hr hqa hqb hqr hra hrb hkeep
  go_cut [] from 10 (fun wc => QMid bq br vq vr (X / Y) (X % Y) w.drew wc)
  case first =>
    go_region_with (go_at_call 79; refine HM.out.mono ?_; rintro e w2 ⟨v, v2, rfl, hd⟩; obtain ⟨x1, x2, x3, x4⟩ := HKP.out w2 v v2 ⟨v, v2, rfl, hd⟩; obtain ⟨c1, c2, rfl⟩ := hd.1.shape; obtain ⟨c3, c4, rfl⟩ := hd.2.1.shape; have HD := Lib.hid hd; clear hd; have e1 := x3.c1; have e2 := x3.frozen 1; have x5 := x4.keep ((Chg.refl (fun k => k = bq) w2).setCell (a := ⟨bq, 1, none⟩) (fun _ => rfl) (.slice c1 (wlen (X / Y)) c2)) (fun h => n5 h.symm); have e3 := x5.c1; have e4 := x5.frozen 1)
    all_goals
      go_wp2
      go_meet
      case rel => exact ⟨_, _, w2, ⟨_, _, rfl, HD.out⟩, rfl⟩
  case rest =>
    obtain ⟨v, v2, w2, hd, rfl⟩ := hcut
    obtain ⟨x1, x2, x3, x4⟩ := HKP.out w2 v v2 hd
    obtain ⟨hq, ha, hb, hr, hqa, hqb, hqr, hra, hrb⟩ := HZ.out
    obtain ⟨_, _, he, k1, k2, k3, k4, k5, k6⟩ := hd
    cases he
    have k3' := k3.undrew
    have x0 : w2.cell? ⟨ba, 0, none⟩ = some (.bool false) := k3'.cell a0 (by
      rintro (h | h | h); exact hqa ba (.inr h) (.inl rfl); exact hra ba (.inr h) (.inl rfl); exact h)
    have x00 : w2.cell? ⟨bb, 0, none⟩ = some (.bool false) := k3'.cell b0 (by
      rintro (h | h | h); exact hqb bb (.inr h) (.inl rfl); exact hrb bb (.inr h) (.inl rfl); exact h)
    obtain ⟨c1, c2, rfl⟩ := k1.shape
    obtain ⟨c3, c4, rfl⟩ := k2.shape
    have x5 := (x3.set1 (.slice c1 (wlen (X / Y)) c2)).keep ((Chg.refl (fun k => k = br) _).setCell (a := ⟨br, 1, none⟩) (fun _ => rfl) (.slice c3 (wlen (X % Y)) c4)) n5
    have x6 := (x4.keep ((Chg.refl (fun k => k = bq) w2).setCell (a := ⟨bq, 1, none⟩) (fun _ => rfl) (.slice c1 (wlen (X / Y)) c2)) (fun h => n5 h.symm)).set1 (.slice c3 (wlen (X % Y)) c4)
    have x7 : ((w2.setCell ⟨bq, 1, none⟩ (.slice c1 (wlen (X / Y)) c2)).setCell ⟨br, 1, none⟩ (.slice c3 (wlen (X % Y)) c4)).cell? ⟨ba, 0, none⟩ = some (.bool false) := by
      rw [cell_set_ne _ _ _ _ _ _ (.inl n3.symm), cell_set_ne _ _ _ _ _ _ (.inl n1.symm)]; exact x0
    have x8 : ((w2.setCell ⟨bq, 1, none⟩ (.slice c1 (wlen (X / Y)) c2)).setCell ⟨br, 1, none⟩ (.slice c3 (wlen (X % Y)) c4)).cell? ⟨bb, 0, none⟩ = some (.bool false) := by
      rw [cell_set_ne _ _ _ _ _ _ (.inl n4.symm), cell_set_ne _ _ _ _ _ _ (.inl n2.symm)]; exact x00
    have hcw : Chg (fun k => Reg bq vq k ∨ Reg br vr k) w ((w2.setCell ⟨bq, 1, none⟩ (.slice c1 (wlen (X / Y)) c2)).setCell ⟨br, 1, none⟩ (.slice c3 (wlen (X % Y)) c4)) := by
      have h1 : Chg (fun k => Reg bq vq k ∨ Reg br vr k) w w2 := k3'.mono (fun k _ h => by rcases h with h | h | h; exact .inl (.inr h); exact .inr (.inr h); exact h.elim)
      exact (h1.setCell (a := ⟨bq, 1, none⟩) (fun _ => .inl (.inl rfl)) _).setCell (a := ⟨br, 1, none⟩) (fun _ => .inr (.inl rfl)) _
    have hb1 := hq.blk.lt
    have hb2 := hr.blk.lt
    have o1 : ¬ (Value.slice c1 (wlen (X / Y)) c2).ownBlock = some bq := fun h => by
      rcases k4 _ h with h1 | h1
      · exact hq.own h1
      · have : w.drew.heap.size = w.heap.size := rfl
        omega
    have o2 : ¬ (Value.slice c1 (wlen (X / Y)) c2).ownBlock = some br := fun h => by
      rcases k4 _ h with h1 | h1
      · exact hqr br (.inr h1) (.inl rfl)
      · have : w.drew.heap.size = w.heap.size := rfl
        omega
    have o3 : ¬ (Value.slice c3 (wlen (X % Y)) c4).ownBlock = some bq := fun h => by
      rcases k5 _ h with h1 | h1
      · exact hqr bq (.inl rfl) (.inr h1)
      · have : w.drew.heap.size = w.heap.size := rfl
        omega
    have o4 : ¬ (Value.slice c3 (wlen (X % Y)) c4).ownBlock = some br := fun h => by
      rcases k5 _ h with h1 | h1
      · exact hr.own h1
      · have : w.drew.heap.size = w.heap.size := rfl
        omega
    have hcb : ∀ (x y z t : Value), Chg (fun k => k = bq ∨ k = br) w2 ((((w2.setCell ⟨bq, 1, none⟩ x).setCell ⟨br, 1, none⟩ y).setCell ⟨bq, 0, none⟩ z).setCell ⟨br, 0, none⟩ t) := fun x y z t =>
      ((((Chg.refl (fun k => k = bq ∨ k = br) w2).setCell (a := ⟨bq, 1, none⟩) (fun _ => .inl rfl) x).setCell (a := ⟨br, 1, none⟩) (fun _ => .inr rfl) y).setCell (a := ⟨bq, 0, none⟩) (fun _ => .inl rfl) z).setCell (a := ⟨br, 0, none⟩) (fun _ => .inr rfl) t
    have hn1 := k1.keep (hcb (.slice c1 (wlen (X / Y)) c2) (.slice c3 (wlen (X % Y)) c4) (.bool false) (.bool false)) (fun k hk h => by rcases h with rfl | rfl; exact o1 hk; exact o2 hk)
    have hn2 := k2.keep (hcb (.slice c1 (wlen (X / Y)) c2) (.slice c3 (wlen (X % Y)) c4) (.bool false) (.bool false)) (fun k hk h => by rcases h with rfl | rfl; exact o3 hk; exact o4 hk)
    have HF := Lib.hid (And.intro hn1 (And.intro hn2 (And.intro hcw (And.intro k4 (And.intro k5 (And.intro k6 (And.intro x5 (And.intro x6 (And.intro o1 o4)))))))))
    have y1 := x5.c1
    have y2 := x6.c1
    have y3 := x5.c0
    have y4 := x5.frozen 0
    have y5 := (x6.keep ((Chg.refl (fun k => k = bq) _).setCell (a := ⟨bq, 0, none⟩) (fun _ => rfl) (.bool false)) (fun h => n5 h.symm)).c0
    have y6 := (x6.keep ((Chg.refl (fun k => k = bq) _).setCell (a := ⟨bq, 0, none⟩) (fun _ => rfl) (.bool false)) (fun h => n5 h.symm)).frozen 0
    generalize wlen (X / Y) = lq at *
    generalize wlen (X % Y) = lr at *
    generalize (w2.setCell ⟨bq, 1, none⟩ (.slice c1 lq c2)).setCell ⟨br, 1, none⟩ (.slice c3 lr c4) = wc at *
    clear hq ha hb hr hqa hqb hqr hra hrb k1 k2 k3 k4 k5 k6 k3' x0 x00 x1 x2 x3 x4 x5 x6 hcw hb1 hb2 o1 o2 o3 o4 hcb hn1 hn2 HKP HM q1 r1 a0 a1 b0 b1
    go_wp2
    rcases Nat.eq_zero_or_pos lq with rfl | hl1
    all_goals rcases Nat.eq_zero_or_pos lr with rfl | hl2
    all_goals
      try have g1 : (0 : Int) < lq := by omega
    all_goals
      try have g2 : (0 : Int) < lr := by omega
    all_goals go_region
    all_goals go_wp2
    all_goals go_ret2
    all_goals
      obtain ⟨hn1, hn2, hcw, k4, k5, k6, x5, x6, o1, o4⟩ := HF.out
      refine ⟨rfl, _, _, ⟨?_, hn1, o1⟩, ⟨?_, hn2, o4⟩, ?_, k4, k5, k6⟩
      · have z1 := Pair.keep (S := fun k => k = br) (x5.set0 (.bool false)) ((Chg.refl (fun k => k = br) _).setCell (a := ⟨br, 0, none⟩) (fun _ => rfl) (.bool false)) n5
        exact z1
      · have z1 := (Pair.keep (S := fun k => k = bq) x6 ((Chg.refl (fun k => k = bq) _).setCell (a := ⟨bq, 0, none⟩) (fun _ => rfl) (.bool false)) (fun h => n5 h.symm)).set0 (.bool false)
        exact z1
      · exact ((hcw.setCell (a := ⟨bq, 0, none⟩) (fun _ => .inl (.inl rfl)) _).setCell (a := ⟨br, 0, none⟩) (fun _ => .inr (.inl rfl)) _).drew
end Go.Proofs.YtbnmgopobmiadaaGreatDoor
