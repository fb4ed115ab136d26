/- Contracts of nat.mul, nat.sqr. -/
import Derived.Test.YtbnmgopobmiadaaGreatDoorB8
import Derived.Outline

set_option linter.unusedSimpArgs false
set_option linter.unusedVariables false

namespace Go.Proofs.YtbnmgopobmiadaaGreatDoor
open Go.RowKit

theorem Nv.keepF {w w' : World} {v : Value} {X : Nat} (h : Nv w v X) (hc : Chg (fun _ => False) w w') : Nv w' v X := h.keep hc (fun _ _ h => h)

set_option maxHeartbeats 1000000 in
set_option maxRecDepth 100000 in
/-- behind the look for aliases: zv is the row to write to -/
theorem mul_core (z stk x y : Value) (X Y : Nat) (w : World) (hz : St w z) (hx : Nv w x X) (hy : Nv w y Y) (hle : wlen Y ≤ wlen X) (hX : wlen X ≤ 1000) (hY : wlen Y < 40) (hY2 : 2 ≤ wlen Y)
    (hG : w.cell? ⟨3, 0, none⟩ = some (.int .i64 40))
    (hcase : (Off (fun k => z.ownBlock = some k) x ∧ Off (fun k => z.ownBlock = some k) y) ∨ z = x ∨ (z = y ∧ Off (fun k => z.ownBlock = some k) x)) :
    Calls Tryz.prog 47 #[z, stk, x, y] w (Gives z (X * Y) w) := by
  have hX0 : X ≠ 0 := by rintro rfl; rw [wlen_zero] at hle; omega
  have hY0 : Y ≠ 0 := by rintro rfl; rw [wlen_zero] at hY2; omega
  have hlx := lt_wlen X
  have hly := lt_wlen Y
  obtain ⟨xb, xc, rfl, x1, x2, x3, x4⟩ := hx.pos hX0
  obtain ⟨yb, yc, rfl, y1, y2, y3, y4⟩ := hy.pos hY0
  generalize hm : wlen X = m at *
  generalize hn : wlen Y = n at *
  -- what stands behind the look
  have rest : ∀ (zv : Value) (q : Nat), St w zv → (zv = z ∨ zv = .slice none 0 0) → Off (fun k => zv.ownBlock = some k) (.slice (some ⟨xb, 0, none⟩) m xc) → Off (fun k => zv.ownBlock = some k) (.slice (some ⟨yb, 0, none⟩) n yc) →
      Calls Tryz.prog 85 #[zv, .int .i64 ((m : Int) + n)] (w.drewN q) fun e w1 => ∃ b cap, e = .returned (.slice (some ⟨b, 0, none⟩) (m + n) cap) ∧ m + n ≤ cap ∧ w1.cell? ⟨3, 0, none⟩ = some (.int .i64 40) ∧
        (Calls Tryz.prog 92 #[.slice (some ⟨b, 0, none⟩) (m + n) cap, .slice (some ⟨xb, 0, none⟩) m xc, .slice (some ⟨yb, 0, none⟩) n yc] w1 fun e w2 => e = .returned (.tuple #[]) ∧
          Calls Tryz.prog 73 #[.slice (some ⟨b, 0, none⟩) (m + n) cap] w2 (Gives z (X * Y) w)) := by
    intro zv q hzv hvz ox oy
    have hmk := make_any zv (m + n) (w.drewN q) hzv (by omega) (by omega)
    rw [show ((m + n : Nat) : Int) = (m : Int) + n by omega] at hmk
    refine hmk.mono ?_
    rintro e w1 ⟨b, cap, rfl, k1, k2, k3, k4, k5⟩
    have hbx : b ≠ xb := by
      rintro rfl
      rcases k5 with k5 | k5
      · exact ox _ rfl k5
      · have := x3.lt; have h2 : b = w.heap.size := k5; omega
    have hby : b ≠ yb := by
      rintro rfl
      rcases k5 with k5 | k5
      · exact oy _ rfl k5
      · have := y3.lt; have h2 : b = w.heap.size := k5; omega
    have k4' := k4.undrewN
    refine ⟨b, cap, rfl, k1, k4'.cell hG (fun h => h), ?_⟩
    refine (basicMul b cap xb m xc yb n yc X Y w1 (by omega) (by omega) (by omega) (by omega) k1 hlx hly k3 (k4'.rd x4 x3.lt (fun h => h)) (Nat.lt_of_lt_of_le x3.lt k4'.size) (k4'.rd y4 y3.lt (fun h => h)) (Nat.lt_of_lt_of_le y3.lt k4'.size) hbx hby).mono ?_
    rintro e w2 ⟨rfl, r1, r2, hwb⟩
    refine ⟨rfl, ?_⟩
    have hlt := lt_pow_mul hlx hly
    refine (norm_any b 0 (m + n) cap (X * Y) w2 k1 k2 hlt r1).mono ?_
    rintro e w3 ⟨rfl, rfl⟩
    have hl := wlen_le hlt
    have h5 : z.ownBlock = some b ∨ b = w.heap.size := by
      rcases k5 with k5 | k5
      · rcases hvz with rfl | rfl
        · exact .inl k5
        · simp [Value.ownBlock] at k5
      · exact .inr k5
    refine ⟨_, rfl, .inr ⟨b, cap, rfl, by omega, k2, hwb, r1.take hl⟩, k4'.trans r2 (fun _ h => h.elim) (fun k hk e => ?_), fun k hk => ?_⟩
    · subst e
      rcases h5 with h5 | h5
      · exact h5
      · omega
    · simp [Value.ownBlock] at hk
      subst hk
      exact h5.imp id (fun h => by omega)
  have h1 : ¬ (m : Int) < n := by omega
  have h2 : ((m : Int) == 0) = false := beq_eq_false_iff_ne.2 (by omega)
  have h3 : ((n : Int) == 0) = false := beq_eq_false_iff_ne.2 (by omega)
  have h4 : ((n : Int) == 1) = false := beq_eq_false_iff_ne.2 (by omega)
  have h5 : (n : Int) < 40 := by omega
  have REST := Lib.hid rest
  have HZ := Lib.hid hz
  have HM := Lib.hid hm
  have HN := Lib.hid hn
  clear rest hm hn hlx hly hX0 hY0
  have HXS := Lib.hid hx.st
  have HYS := Lib.hid hy.st
  rcases hcase with ⟨ox, oy⟩ | rfl | ⟨rfl, ox⟩
  · have hal1 := alias_other z _ w hz hx.st ox
    have hal2 := fun q => alias_other z _ (w.drewN q) hz hy.st oy
    have A1 := Lib.hid hal1
    have A2 := Lib.hid hal2
    clear hal1 hal2
    go_enter Tryz.func47, Tryz.ntmps47
    go_wp2_with fail
    refine A1.out.mono ?_
    rintro e w1 ⟨rfl, q1, rfl⟩
    go_wp2_with fail
    refine (A2.out q1).mono ?_
    rintro e w1 ⟨rfl, q2, rfl⟩
    rw [World.drewN_drewN]
    go_wp2_with fail
    refine (REST.out z _ HZ.out (.inl rfl) ox oy).mono ?_
    rintro e w2 ⟨b, cap, rfl, k1, hg, k3⟩
    have K3 := Lib.hid k3
    clear k3
    go_wp2_with fail
    refine K3.out.mono ?_
    rintro e w3 ⟨rfl, k4⟩
    have K4 := Lib.hid k4
    clear k4
    go_wp2_with fail
    refine K4.out.mono ?_
    rintro e w4 ⟨v, rfl, hv⟩
    have HG := Lib.hid (show Gives z (X * Y) w (.returned v) w4 from ⟨v, rfl, hv⟩)
    clear hv
    go_wp2
    go_ret
    exact HG.out
  · have A1 := Lib.hid (alias_same xb m m xc w (by omega) x2)
    go_enter Tryz.func47, Tryz.ntmps47
    go_wp2_with fail
    refine A1.out.mono ?_
    rintro e w1 ⟨rfl, q1, rfl⟩
    go_wp2_with fail
    refine (REST.out (.slice none 0 0) _ (.inl rfl) (.inr rfl) (fun _ _ h => by simp [Value.ownBlock] at h) (fun _ _ h => by simp [Value.ownBlock] at h)).mono ?_
    rintro e w2 ⟨b, cap, rfl, k1, hg, k3⟩
    have K3 := Lib.hid k3
    clear k3
    go_wp2_with fail
    refine K3.out.mono ?_
    rintro e w3 ⟨rfl, k4⟩
    have K4 := Lib.hid k4
    clear k4
    go_wp2_with fail
    refine K4.out.mono ?_
    rintro e w4 ⟨v, rfl, hv⟩
    have HG := Lib.hid (show Gives _ (X * Y) w (.returned v) w4 from ⟨v, rfl, hv⟩)
    clear hv
    go_wp2
    go_ret
    exact HG.out
  · have A1 := Lib.hid (alias_other _ _ w hz hx.st ox)
    have A2 := Lib.hid (fun q => alias_same yb n n yc (w.drewN q) (by omega) y2)
    go_enter Tryz.func47, Tryz.ntmps47
    go_wp2_with fail
    refine A1.out.mono ?_
    rintro e w1 ⟨rfl, q1, rfl⟩
    go_wp2_with fail
    refine (A2.out q1).mono ?_
    rintro e w1 ⟨rfl, q2, rfl⟩
    rw [World.drewN_drewN]
    go_wp2_with fail
    refine (REST.out (.slice none 0 0) _ (.inl rfl) (.inr rfl) (fun _ _ h => by simp [Value.ownBlock] at h) (fun _ _ h => by simp [Value.ownBlock] at h)).mono ?_
    rintro e w2 ⟨b, cap, rfl, k1, hg, k3⟩
    have K3 := Lib.hid k3
    clear k3
    go_wp2_with fail
    refine K3.out.mono ?_
    rintro e w3 ⟨rfl, k4⟩
    have K4 := Lib.hid k4
    clear k4
    go_wp2_with fail
    refine K4.out.mono ?_
    rintro e w4 ⟨v, rfl, hv⟩
    have HG := Lib.hid (show Gives _ (X * Y) w (.returned v) w4 from ⟨v, rfl, hv⟩)
    clear hv
    go_wp2
    go_ret
    exact HG.out

set_option maxRecDepth 100000 in
theorem mul_ge (z stk x y : Value) (X Y : Nat) (w : World) (hz : St w z) (hx : Nv w x X) (hy : Nv w y Y) (hle : wlen Y ≤ wlen X) (hX : wlen X ≤ 1000) (hY : wlen Y < 40)
    (hG : w.cell? ⟨3, 0, none⟩ = some (.int .i64 40))
    (hcase : (Off (fun k => z.ownBlock = some k) x ∧ Off (fun k => z.ownBlock = some k) y) ∨ z = x ∨ (z = y ∧ Off (fun k => z.ownBlock = some k) x)) :
    Calls Tryz.prog 47 #[z, stk, x, y] w (Gives z (X * Y) w) := by
  by_cases h2 : 2 ≤ wlen Y
  · exact mul_core z stk x y X Y w hz hx hy hle hX hY h2 hG hcase
  · by_cases h0 : Y = 0
    · subst h0
      rw [wlen_zero, Nat.mul_zero] at *
      obtain ⟨xa, xc, rfl⟩ := hx.shape
      obtain ⟨ya, yc, rfl⟩ := hy.shape
      obtain ⟨za, zn, zc, rfl⟩ := hz.shape
      rw [wlen_zero]
      have HZ := Lib.hid (hz.gives_zero w ⟨0, rfl⟩)
      clear hz hx hy hle hY hG hcase h2
      generalize wlen X = m at *
      by_cases hm : m = 0
      · subst hm
        go_enter Tryz.func47, Tryz.ntmps47
        go_wp2
        all_goals (go_ret; exact HZ.out)
      · have hm2 : ((m : Int) == 0) = false := beq_eq_false_iff_ne.2 (by omega)
        clear hm
        go_enter Tryz.func47, Tryz.ntmps47
        go_wp2
        all_goals (go_ret; exact HZ.out)
    · have hp : 0 < wlen Y := by have := mt wlen_eq_zero.1 h0; omega
      have h1 : wlen Y = 1 := by omega
      have hyB : Y < B := by have := lt_wlen Y; rwa [h1, Nat.pow_one] at this
      have hX0 : X ≠ 0 := by rintro rfl; rw [wlen_zero] at hle; omega
      have hzx : z.ownBlock = x.ownBlock ∨ Off (fun k => z.ownBlock = some k) x := by
        rcases hcase with ⟨h, _⟩ | rfl | ⟨_, h⟩
        · exact .inr h
        · exact .inl rfl
        · exact .inr h
      have hmul := mulAddWW_any z x X Y 0 w hz hx (by omega) hyB B_pos hzx
      rw [Nat.add_zero] at hmul
      obtain ⟨yb, yc, rfl, y1, y2, y3, y4⟩ := hy.pos h0
      have hc0 : w.cell? ⟨yb, 0, none⟩ = some (.int .u64 (Y : Nat)) := by
        have := y4 0 (by omega); rw [wd, dig_small0 hyB] at this; exact this
      rw [h1] at *
      obtain ⟨xa, xc, rfl⟩ := hx.shape
      have HM := Lib.hid hmul
      have hm0 : 0 < wlen X := by omega
      clear hmul hz hx hy hG hcase h2 hzx y4
      generalize wlen X = m at *
      have hm1 : ¬ (m : Int) < 1 := by omega
      have hm2 : ((m : Int) == 0) = false := beq_eq_false_iff_ne.2 (by omega)
      have HY := Lib.hid hyB
      clear hyB
      go_enter Tryz.func47, Tryz.ntmps47
      go_wp2_with fail
      refine HM.out.mono ?_
      rintro e w4 ⟨v, rfl, hv⟩
      have HG := Lib.hid (show Gives _ (X * Y) w (.returned v) w4 from ⟨v, rfl, hv⟩)
      clear hv
      go_wp2
      go_ret
      exact HG.out

set_option maxRecDepth 100000 in
theorem mul_any (z stk x y : Value) (X Y : Nat) (w : World) (hz : St w z) (hx : Nv w x X) (hy : Nv w y Y) (hX : wlen X < 40) (hY : wlen Y < 40)
    (hG : w.cell? ⟨3, 0, none⟩ = some (.int .i64 40))
    (hcase : (Off (fun k => z.ownBlock = some k) x ∧ Off (fun k => z.ownBlock = some k) y) ∨ (z = x ∧ Off (fun k => z.ownBlock = some k) y)) :
    Calls Tryz.prog 47 #[z, stk, x, y] w (Gives z (X * Y) w) := by
  by_cases hlt : wlen X < wlen Y
  · have hc : Calls Tryz.prog 47 #[z, stk, y, x] w (Gives z (Y * X) w) := mul_ge z stk y x Y X w hz hy hx (by omega) (by omega) hX hG (by
      rcases hcase with ⟨h1, h2⟩ | ⟨h1, h2⟩
      · exact .inl ⟨h2, h1⟩
      · exact .inr (.inr ⟨h1, h2⟩))
    rw [Nat.mul_comm] at hc
    have HC := Lib.hid hc
    obtain ⟨xa, xc, rfl⟩ := hx.shape
    obtain ⟨ya, yc, rfl⟩ := hy.shape
    clear hc hz hx hy hG hcase
    generalize wlen X = m at *
    generalize wlen Y = n at *
    have hi : (m : Int) < n := by omega
    go_enter Tryz.func47, Tryz.ntmps47
    go_wp2_with fail
    refine HC.out.mono ?_
    rintro e w1 ⟨v, rfl, hg⟩
    have HG := Lib.hid (show Gives z (X * Y) w (.returned v) w1 from ⟨v, rfl, hg⟩)
    clear hg
    go_wp2
    go_ret
    exact HG.out
  · refine mul_ge z stk x y X Y w hz hx hy (by omega) (by omega) hY hG ?_
    rcases hcase with ⟨h1, h2⟩ | ⟨h1, h2⟩
    · exact .inl ⟨h1, h2⟩
    · exact .inr (.inl h1)
end Go.Proofs.YtbnmgopobmiadaaGreatDoor
