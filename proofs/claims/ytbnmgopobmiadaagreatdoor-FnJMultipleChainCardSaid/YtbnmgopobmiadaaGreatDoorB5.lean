/- Contracts of nat.cmp, nat.add, nat.sub. -/
import Derived.Test.YtbnmgopobmiadaaGreatDoorB4
import Derived.Outline
import Derived.StillTailTactics
import Derived.Deep.RegionWith

set_option linter.unusedSimpArgs false
set_option linter.unusedVariables false

namespace Go.Proofs.YtbnmgopobmiadaaGreatDoor
open Go.RowKit

def cmpN (X Y : Nat) : Int := if X < Y then -1 else if Y < X then 1 else 0

theorem cmp_lt {X Y i : Nat} (h : X / B ^ (i + 1) = Y / B ^ (i + 1)) (hd : dig X i < dig Y i) : X < Y := by
  have hX := Nat.mod_add_div (X / B ^ i) B
  have hY := Nat.mod_add_div (Y / B ^ i) B
  unfold dig at hd
  rw [Nat.div_div_eq_div_mul, ← Nat.pow_succ, Nat.succ_eq_add_one] at hX hY
  have : X / B ^ i < Y / B ^ i := by rw [← hX, ← hY, h]; omega
  refine Nat.lt_of_not_le fun hle => ?_
  have := Nat.div_le_div_right (c := B ^ i) hle
  omega
theorem cmp_eq {X Y : Nat} (h : X / B ^ (0 + 1) = Y / B ^ (0 + 1)) (hd : dig X 0 = dig Y 0) : X = Y := by
  have hX := Nat.mod_add_div X B
  have hY := Nat.mod_add_div Y B
  rw [dig_zero, dig_zero] at hd
  rw [Nat.zero_add, Nat.pow_one] at h
  rw [← hX, ← hY, h, hd]
theorem wlen_lt_lt {X Y : Nat} (h : wlen X < wlen Y) : X < Y := by
  refine Nat.lt_of_not_le fun hle => ?_
  have := wlen_mono hle; omega
theorem div_step {X Y i : Nat} (h : X / B ^ (i + 1) = Y / B ^ (i + 1)) (hd : dig X i = dig Y i) : X / B ^ i = Y / B ^ i := by
  have hX := Nat.mod_add_div (X / B ^ i) B
  have hY := Nat.mod_add_div (Y / B ^ i) B
  rw [Nat.div_div_eq_div_mul, ← Nat.pow_succ, Nat.succ_eq_add_one] at hX hY
  unfold dig at hd
  rw [← hX, ← hY, h, hd]

def Drawn (v : Value) (w : World) (e : Ending) (w' : World) : Prop := e = .returned v ∧ ∃ n, w' = w.drewN n
theorem drewN_drew (w : World) (n : Nat) : (w.drewN n).drew = w.drewN (n + 1) := rfl
theorem drewN_zero (w : World) : w.drewN 0 = w := rfl

set_option maxRecDepth 100000 in
theorem cmp_rows (xb xc yb yc n X Y : Nat) (w : World) (hn0 : 0 < n) (hn : n ≤ 1000000) (hX : X < B ^ n) (hY : Y < B ^ n) (hx : Rd w xb 0 n X) (hy : Rd w yb 0 n Y) :
    Calls Tryz.prog 126 #[.slice (some ⟨xb, 0, none⟩) n xc, .slice (some ⟨yb, 0, none⟩) n yc] w (Drawn (.int .i64 (cmpN X Y)) w) := by
  have h1 : ((n : Int) != n) = false := by simp
  have h2 : ((n : Int) == 0) = false := by simp; omega
  have h3 : (1 : Int) ≤ n := by omega
  have HX := Lib.hid hX
  have HY := Lib.hid hY
  clear hX hY
  go_enter Tryz.func126, Tryz.ntmps126
  go_wp2
  go_loopw [7] (fun i wr => ∃ k : Nat, k < n ∧ i = .int .i64 k ∧ Hid (X / B ^ (k + 1) = Y / B ^ (k + 1)) ∧ ∃ q, wr = w.drewN q) (fun i _ => (intOf i).toNat)
  case atStart =>
    refine ⟨n - 1, by omega, by rw [Int.ofNat_sub (by omega)]; rfl, Lib.hid ?_, 0, rfl⟩
    rw [Nat.sub_add_cancel hn0, Nat.div_eq_of_lt HX.out, Nat.div_eq_of_lt HY.out]
  case round =>
    obtain ⟨k, hk, rfl, hd, q, rfl⟩ := hrel
    have hcx : w.cell? ⟨xb, k, none⟩ = some (.int .u64 (dig X k : Nat)) := by have := hx k hk; rwa [Nat.zero_add] at this
    have hcy : w.cell? ⟨yb, k, none⟩ = some (.int .u64 (dig Y k : Nat)) := by have := hy k hk; rwa [Nat.zero_add] at this
    have hkn : (k : Int) < n := by omega
    by_cases h0 : 0 < k
    · have h0' : (0 : Int) < k := by omega
      by_cases he : dig X k = dig Y k
      · have he' : (((dig X k : Nat) : Int) == (dig Y k : Nat)) = true := beq_iff_eq.2 (by omega)
        have HE := Lib.hid he
        clear he
        go_wp2
        go_quiet (fail)
        go_wp2
        go_roundw
        case rel =>
          refine ⟨k - 1, by omega, by rw [Int.ofNat_sub (by omega)]; rfl, Lib.hid ?_, _, rfl⟩
          rw [Nat.sub_add_cancel h0]
          exact div_step hd.out HE.out
        case measure => simp [intOf]; omega
      · have he' : (((dig X k : Nat) : Int) == (dig Y k : Nat)) = false := beq_eq_false_iff_ne.2 (by omega)
        by_cases hlt : dig X k < dig Y k
        · have e : Hid (cmpN X Y = -1) := Lib.hid (if_pos (cmp_lt hd.out hlt))
          clear he
          go_wp2
          go_quiet (fail)
          go_wp2
          go_quiet (fail)
          go_wp2
          go_ret
          exact ⟨by rw [e.out]; rfl, by simp only [World.drewN_drewN]; exact ⟨_, rfl⟩⟩
        · have hgt : dig Y k < dig X k := by omega
          have e : Hid (cmpN X Y = 1) := by
            have := cmp_lt hd.out.symm hgt
            unfold cmpN; rw [if_neg (by omega), if_pos this]; exact Lib.hid rfl
          clear he
          go_wp2
          go_quiet (fail)
          go_wp2
          go_quiet (fail)
          go_wp2
          go_quiet (fail)
          go_wp2
          go_ret
          exact ⟨by rw [e.out]; rfl, by simp only [World.drewN_drewN]; exact ⟨_, rfl⟩⟩
    · obtain rfl : k = 0 := by omega
      have h00 : ¬ (0 : Int) < ((0 : Nat) : Int) := by omega
      by_cases hlt : dig X 0 < dig Y 0
      · have e : Hid (cmpN X Y = -1) := Lib.hid (if_pos (cmp_lt hd.out hlt))
        go_wp2
        go_quiet (fail)
        go_wp2
        go_quiet (fail)
        go_wp2
        go_ret
        exact ⟨by rw [e.out]; rfl, by simp only [World.drewN_drewN]; exact ⟨_, rfl⟩⟩
      · by_cases hgt : dig Y 0 < dig X 0
        · have e : Hid (cmpN X Y = 1) := by
            have := cmp_lt hd.out.symm hgt
            unfold cmpN; rw [if_neg (by omega), if_pos this]; exact Lib.hid rfl
          go_wp2
          go_quiet (fail)
          go_wp2
          go_quiet (fail)
          go_wp2
          go_quiet (fail)
          go_wp2
          go_ret
          exact ⟨by rw [e.out]; rfl, by simp only [World.drewN_drewN]; exact ⟨_, rfl⟩⟩
        · have e : Hid (cmpN X Y = 0) := by
            have := cmp_eq hd.out (by omega)
            unfold cmpN; rw [if_neg (by omega), if_neg (by omega)]; exact Lib.hid rfl
          go_wp2
          go_quiet (fail)
          go_wp2
          go_quiet (fail)
          go_wp2
          go_quiet (fail)
          go_wp2
          go_ret
          exact ⟨by rw [e.out]; rfl, by simp only [World.drewN_drewN]; exact ⟨_, rfl⟩⟩

set_option maxRecDepth 100000 in
theorem cmp_any (x y : Value) (X Y : Nat) (w : World) (hx : Nv w x X) (hy : Nv w y Y) (hX : wlen X ≤ 1000000) (hY : wlen Y ≤ 1000000) :
    Calls Tryz.prog 126 #[x, y] w (Drawn (.int .i64 (cmpN X Y)) w) := by
  have hlx := lt_wlen X
  have hly := lt_wlen Y
  by_cases he : wlen X = wlen Y
  · by_cases h0 : X = 0
    · have hY0 : Y = 0 := by subst h0; rw [wlen_zero] at he; exact wlen_eq_zero.1 he.symm
      subst h0; subst hY0
      have key : ∀ (a b : Option Addr) (c d : Nat), Calls Tryz.prog 126 #[.slice a 0 c, .slice b 0 d] w (Drawn (.int .i64 (cmpN 0 0)) w) := by
        intro a b c d
        have e : Hid (cmpN 0 0 = 0) := Lib.hid rfl
        go_enter Tryz.func126, Tryz.ntmps126
        go_wp2
        go_ret
        exact ⟨by rw [e.out]; rfl, 0, rfl⟩
      rcases hx with ⟨rfl, _⟩ | ⟨xb, xc, rfl, _⟩ <;> rcases hy with ⟨rfl, _⟩ | ⟨yb, yc, rfl, _⟩ <;> (try rw [wlen_zero]) <;> exact key _ _ _ _
    · have hY0 : Y ≠ 0 := by rintro rfl; rw [wlen_zero] at he; exact h0 (wlen_eq_zero.1 he)
      obtain ⟨xb, xc, rfl, _, _, _, h4⟩ := hx.pos h0
      obtain ⟨yb, yc, rfl, _, _, _, k4⟩ := hy.pos hY0
      rw [← he] at k4 hly ⊢
      exact cmp_rows xb xc yb yc (wlen X) X Y w (by have := mt wlen_eq_zero.1 h0; omega) hX hlx hly h4 k4
  · have key : ∀ (a b : Option Addr) (c d : Nat), Calls Tryz.prog 126 #[.slice a (wlen X) c, .slice b (wlen Y) d] w (Drawn (.int .i64 (cmpN X Y)) w) := by
      intro a b c d
      rcases Nat.lt_or_gt_of_ne he with h | h
      · have e : Hid (cmpN X Y = -1) := Lib.hid (if_pos (wlen_lt_lt h))
        have hne : (((wlen X : Nat) : Int) != (wlen Y : Nat)) = true := by rw [bne_iff_ne]; omega
        clear he hlx hly
        generalize wlen X = m at *
        generalize wlen Y = n at *
        go_enter Tryz.func126, Tryz.ntmps126
        go_wp2
        go_ret
        exact ⟨by rw [e.out]; rfl, 0, rfl⟩
      · have e : Hid (cmpN X Y = 1) := by
          have := wlen_lt_lt h
          unfold cmpN; rw [if_neg (by omega), if_pos this]; exact Lib.hid rfl
        have hne : (((wlen X : Nat) : Int) != (wlen Y : Nat)) = true := by rw [bne_iff_ne]; omega
        clear he hlx hly
        generalize wlen X = m at *
        generalize wlen Y = n at *
        go_enter Tryz.func126, Tryz.ntmps126
        go_wp2
        go_ret
        exact ⟨by rw [e.out]; rfl, 0, rfl⟩
    have hw0 : ∀ Z, Z = 0 → Value.slice none 0 0 = .slice none (wlen Z) 0 := by rintro _ rfl; rw [wlen_zero]
    rcases hx with ⟨rfl, h⟩ | ⟨xb, xc, rfl, _⟩ <;> rcases hy with ⟨rfl, h'⟩ | ⟨yb, yc, rfl, _⟩
    · rw [h, h'] at he; exact absurd rfl he
    · rw [hw0 X h]; exact key _ _ _ _
    · rw [hw0 Y h']; exact key _ _ _ _
    · exact key _ _ _ _

end Go.Proofs.YtbnmgopobmiadaaGreatDoor

/- Contracts of nat.add and nat.sub. -/
namespace Go.Proofs.YtbnmgopobmiadaaGreatDoor
open Go.RowKit

theorem Wr.undrew {w w' : World} {b o n Z : Nat} (h : Wr w.drew w' b o n Z) : Wr w w' b o n Z := ⟨h.os, h.tape, h.output, h.size, h.other, h.blk⟩
theorem Wr.undrewN {w w' : World} {b o n Z k : Nat} (h : Wr (w.drewN k) w' b o n Z) : Wr w w' b o n Z := ⟨h.os, h.tape, h.output, h.size, h.other, h.blk⟩
theorem Chg.undrew {S : Nat → Prop} {w w' : World} (h : Chg S w.drew w') : Chg S w w' := ⟨h.os, h.tape, h.output, h.size, h.keep⟩
theorem Chg.undrewN {S : Nat → Prop} {w w' : World} {k : Nat} (h : Chg S (w.drewN k) w') : Chg S w w' := ⟨h.os, h.tape, h.output, h.size, h.keep⟩
theorem add_div_pow {X Y n : Nat} (hY : Y < B ^ n) : (X + Y) / B ^ n = X / B ^ n + cadd X Y 0 n := by
  unfold cadd
  have h := Nat.mod_add_div X (B ^ n)
  rw [Nat.mod_eq_of_lt hY, Nat.add_zero]
  conv => lhs; rw [← h]
  rw [Nat.add_right_comm, Nat.add_mul_div_left _ _ (Bpow_pos n)]; omega

theorem addVW_any (zb o xb n c1 c2 X y : Nat) (w : World) (hn : n ≤ 4611686018427387904) (hn0 : 0 < n) (hy : y < B) (hc1 : n ≤ c1) (hc2 : n ≤ c2)
    (hz : Wb w zb o n) (hxw : Wb w xb o n) (hx : Rd w xb o n X) :
    Calls Tryz.prog 160 #[.slice (some ⟨zb, o, none⟩) n c1, .slice (some ⟨xb, o, none⟩) n c2, .int .u64 y] w fun e w' =>
      e = .returned (.int .u64 (cadd X y 0 n : Nat)) ∧ Wr w w' zb o n (X + y) := by
  by_cases h : zb = xb
  · subst h; exact addVW_same zb o n c1 c2 X y w hn hn0 hy hz hx
  · exact addVW_other zb o xb o n c1 c2 X y w hn hn0 hy h hc1 hc2 hz hxw hx
theorem subVW_any (zb o xb n c1 c2 X y : Nat) (w : World) (hn : n ≤ 4611686018427387904) (hn0 : 0 < n) (hX : X < B ^ n) (hy : y < B) (hc1 : n ≤ c1) (hc2 : n ≤ c2)
    (hz : Wb w zb o n) (hxw : Wb w xb o n) (hx : Rd w xb o n X) :
    Calls Tryz.prog 183 #[.slice (some ⟨zb, o, none⟩) n c1, .slice (some ⟨xb, o, none⟩) n c2, .int .u64 y] w fun e w' =>
      e = .returned (.int .u64 (bsub X y 0 n : Nat)) ∧ Wr w w' zb o n (X + B ^ n - y) := by
  by_cases h : zb = xb
  · subst h; exact subVW_same zb o n c1 c2 X y w hn hn0 hX hy hz hx
  · exact subVW_other zb o xb o n c1 c2 X y w hn hn0 hX hy h hc1 hc2 hz hxw hx

theorem add_lt_pow {X Y m : Nat} (hX : X < B ^ m) (hY : Y < B ^ m) : X + Y < B ^ (m + 1) := by
  rw [Nat.pow_succ]
  have : B ^ m * 2 ≤ B ^ m * B := Nat.mul_le_mul_left _ (by have := one_lt_B; omega)
  omega
theorem div_lt_pow {X m n : Nat} (hX : X < B ^ m) (h : n ≤ m) : X / B ^ n < B ^ (m - n) := by
  rw [Nat.div_lt_iff_lt_mul (Bpow_pos n), ← Nat.pow_add, Nat.sub_add_cancel h]; exact hX

theorem Chg.to_drewN {S : Nat → Prop} (w : World) (n : Nat) : Chg S w (w.drewN n) := (Chg.refl S w).drewN n
/-- what a function on natural numbers gives that writes to z's row or makes a new one -/
def Gives (z : Value) (Z : Nat) (w : World) (e : Ending) (w' : World) : Prop :=
  ∃ v, e = .returned v ∧ Nv w' v Z ∧ Chg (fun k => z.ownBlock = some k) w w' ∧ (∀ k, v.ownBlock = some k → z.ownBlock = some k ∨ w.heap.size ≤ k)

theorem gives_row {z : Value} {b cap n Z : Nat} {w w1 w4 : World} (hc : Chg (fun _ => False) w w1) (hb : Wb w1 b 0 cap) (hcap : cap ≤ 4611686018427387904) (hw : Wr w1 w4 b 0 n Z) (hn : n ≤ cap)
    (hZ : Z < B ^ n) (h5 : z.ownBlock = some b ∨ b = w.heap.size) : Gives z Z w (.returned (.slice (some ⟨b, 0, none⟩) (wlen Z) cap)) w4 := by
  have hl := wlen_le hZ
  refine ⟨_, rfl, .inr ⟨b, cap, rfl, by omega, hcap, hw.wb hb, hw.rd.take hl⟩, hc.trans hw.chg (fun _ h => h.elim) (fun k hk e => ?_), fun k hk => ?_⟩
  · subst e
    rcases h5 with h5 | h5
    · exact h5
    · omega
  · simp [Value.ownBlock] at hk
    subst hk
    exact h5.imp id (fun h => by omega)

/-- the row of z is x's own, or another one -/
def Ap (z x : Value) : Prop := z = x ∨ Off (fun k => z.ownBlock = some k) x

set_option maxRecDepth 100000 in
theorem add_ge (z x y : Value) (X Y : Nat) (w : World) (hz : St w z) (hx : Nv w x X) (hy : Nv w y Y) (hX : wlen X ≤ 100000) (hle : wlen Y ≤ wlen X) (hY0 : Y ≠ 0)
    (hzx : z.ownBlock = x.ownBlock ∨ Off (fun k => z.ownBlock = some k) x) (hzy : z.ownBlock = y.ownBlock ∨ Off (fun k => z.ownBlock = some k) y) :
    Calls Tryz.prog 148 #[z, x, y] w (Gives z (X + Y) w) := by
  have hyl : 0 < wlen Y := by have := mt wlen_eq_zero.1 hY0; omega
  have hX0 : X ≠ 0 := by intro h; subst h; rw [wlen_zero] at hle; omega
  have hlx := lt_wlen X
  have hly := lt_wlen Y
  obtain ⟨xb, xc, rfl, x1, x2, x3, x4⟩ := hx.pos hX0
  obtain ⟨yb, yc, rfl, y1, y2, y3, y4⟩ := hy.pos hY0
  generalize hm : wlen X = m at *
  generalize hn : wlen Y = n at *
  have h1 : ¬ (m : Int) < n := by omega
  have h2 : ((m : Int) == 0) = false := beq_eq_false_iff_ne.2 (by omega)
  have h3 : ((n : Int) == 0) = false := beq_eq_false_iff_ne.2 (by omega)
  have HM := Lib.hid hm
  have HN := Lib.hid hn
  have HLX := Lib.hid hlx
  have HLY := Lib.hid hly
  have HX0 := Lib.hid hX0
  have HY0 := Lib.hid hY0
  clear hm hn hlx hly hX0 hY0
  go_enter Tryz.func148, Tryz.ntmps148
  go_wp2_with fail
  have hmk := make_any z (m + 1) w hz (by omega) (by omega)
  rw [show ((m + 1 : Nat) : Int) = (m : Int) + 1 by omega] at hmk
  refine hmk.mono ?_
  rintro e w1 ⟨b, cap, rfl, k1, k2, k3, k4, k5⟩
  have hbx : m ≤ cap := by omega
  have rx : Rd w1 xb 0 m X := k4.rd x4 x3.lt (fun h => h)
  have ry : Rd w1 yb 0 n Y := k4.rd y4 y3.lt (fun h => h)
  go_wp2
  have a1 : n ≤ cap := by omega
  have a2 : n ≤ xc := by omega
  go_still_tail 9, (by kernel_rfl)
  change wpList _ _ _ _ _ w1.drew
  go_wp2_with fail
  refine (addVV b 0 xb 0 yb 0 n cap xc yc X Y w1.drew (by omega) (k3.mono (by omega)) (rx.take hle) ry (by omega) (by omega)).mono ?_
  rintro e w2 ⟨rfl, hw2'⟩
  have hw2 := hw2'.undrew
  clear hw2'
  have hcl : cadd X Y 0 n ≤ 1 := cadd_le _ _ _ (by omega)
  have hcB : cadd X Y 0 n < B := Nat.lt_of_le_of_lt hcl one_lt_B
  have hsum : (X + Y) / B ^ n = X / B ^ n + cadd X Y 0 n := add_div_pow HLY.out
  have HC := Lib.hid hcB
  have HS := Lib.hid hsum
  clear hcB hsum hcl
  have hblk : z.ownBlock = some b ∨ b = w.heap.size := k5
  have K5 := Lib.hid hblk
  clear k5 hblk
  by_cases hgt : n < m
  · have hg : (n : Int) < m := by omega
    have n1 : ¬ cap = n := by omega
    have n2 : ¬ xc = n := by omega
    have a3 : m ≤ cap := by omega
    have a4 : (n : Int) ≤ m := by omega
    go_wp2
    go_still_tail 8, (by kernel_rfl)
    change wpList _ _ _ _ _ w2.drew
    go_wp2_with fail
    have rx2 : Rd w2 xb n (m - n) (X / B ^ n) := by
      have := (rx.drop hle); rw [Nat.zero_add] at this
      exact hw2.rd_out this (by omega)
    refine (addVW_any b n xb (m - n) (cap - n) (xc - n) (X / B ^ n) (cadd X Y 0 n) w2.drew (by omega) (by omega) HC.out (by omega) (by omega) ((hw2.wb k3).mono (by omega)) ((hw2.wb (k4.wb x3 (fun h => h))).mono (by omega)) rx2).mono ?_
    rintro e w3 ⟨rfl, hw3'⟩
    have hw3 : Wr w1 w3 b 0 m (X + Y) := by
      have h := hw2.join (k := n) (m := m - n) (w2 := w3) (by
        rw [Nat.zero_add]; rw [HS.out]; exact hw3'.undrew)
      rw [show n + (m - n) = m by omega] at h; exact h
    have hcar : cadd (X / B ^ n) (cadd X Y 0 n) 0 (m - n) = dig (X + Y) m := by
      have hlt : X + Y < B ^ (m + 1) := add_lt_pow HLX.out (Nat.lt_of_lt_of_le HLY.out (Nat.pow_le_pow_right B_pos hle))
      rw [dig_top hlt, cadd_top (div_lt_pow HLX.out hle) (lt_pow_of_lt HC.out (by omega)), Nat.add_zero, ← HS.out, Nat.div_div_eq_div_mul, ← Nat.pow_add, show n + (m - n) = m by omega]
    have HR := Lib.hid hcar
    clear hcar hw3'
    have hcell := (hw3.wb k3).cell (i := m) (by omega)
    rw [Nat.zero_add] at hcell
    obtain ⟨v0, hc0⟩ := hcell
    have hf0 := (hw3.wb k3).frozen m
    have hm1 : (m : Int) < m + 1 := by omega
    go_wp2_with fail
    have hw4 := hw3.snoc k3 (by omega) (v := .int .u64 (cadd (X / B ^ n) (cadd X Y 0 n) 0 (m - n) : Nat)) (by rw [HR.out]; rfl)
    rw [Nat.zero_add] at hw4
    have hlt : X + Y < B ^ (m + 1) := add_lt_pow HLX.out (Nat.lt_of_lt_of_le HLY.out (Nat.pow_le_pow_right B_pos hle))
    refine (norm_any b 0 (m + 1) cap (X + Y) _ k1 k2 hlt hw4.rd).mono ?_
    rintro e w5 ⟨rfl, rfl⟩
    have HG := Lib.hid (gives_row k4 k3 k2 hw4 k1 hlt K5.out)
    clear hlt hw4
    go_wp2
    go_ret
    exact HG.out
  · obtain rfl : m = n := by omega
    have hcar : cadd X Y 0 m = dig (X + Y) m := by
      have hlt : X + Y < B ^ (m + 1) := add_lt_pow HLX.out HLY.out
      rw [dig_top hlt, cadd_top HLX.out HLY.out, Nat.add_zero]
    have HR := Lib.hid hcar
    clear hcar
    have hcell := (hw2.wb k3).cell (i := m) (by omega)
    rw [Nat.zero_add] at hcell
    obtain ⟨v0, hc0⟩ := hcell
    have hf0 := (hw2.wb k3).frozen m
    have hm1 : (m : Int) < m + 1 := by omega
    go_wp2_with fail
    have hw4 := hw2.snoc k3 (by omega) (v := .int .u64 (cadd X Y 0 m : Nat)) (by rw [HR.out]; rfl)
    rw [Nat.zero_add] at hw4
    have hlt : X + Y < B ^ (m + 1) := add_lt_pow HLX.out HLY.out
    refine (norm_any b 0 (m + 1) cap (X + Y) _ k1 k2 hlt hw4.rd).mono ?_
    rintro e w5 ⟨rfl, rfl⟩
    have HG := Lib.hid (gives_row k4 k3 k2 hw4 k1 hlt K5.out)
    clear hlt hw4
    go_wp2
    go_ret
    exact HG.out

theorem gives_of_set {z v : Value} {X : Nat} {w w' : World} (h : Nv w' v X ∧ Chg (fun k => z.ownBlock = some k) w w' ∧ (∀ k, v.ownBlock = some k → z.ownBlock = some k ∨ k = w.heap.size)) : Gives z X w (.returned v) w' :=
  ⟨v, rfl, h.1, h.2.1, fun k hk => (h.2.2 k hk).imp id (fun h => by omega)⟩

/-- a slice of a natural number, seen from outside -/
theorem Nv.shape {w : World} {v : Value} {X : Nat} (h : Nv w v X) : ∃ a c, v = .slice a (wlen X) c := by
  rcases h with ⟨rfl, rfl⟩ | ⟨b, cap, rfl, _⟩
  · exact ⟨_, _, by rw [wlen_zero]⟩
  · exact ⟨_, _, rfl⟩
theorem St.shape {w : World} {v : Value} (h : St w v) : ∃ a n c, v = .slice a n c := by
  rcases h with rfl | ⟨b, n, cap, rfl, _⟩
  · exact ⟨_, _, _, rfl⟩
  · exact ⟨_, _, _, rfl⟩
theorem St.gives_zero {w : World} {a : Option Addr} {n c : Nat} (hz : St w (.slice a n c)) (w' : World) (hc : ∃ k, w' = w.drewN k) : Gives (.slice a n c) 0 w (.returned (.slice a 0 c)) w' := by
  obtain ⟨k, rfl⟩ := hc
  refine ⟨_, rfl, ?_, Chg.to_drewN _ _, fun k hk => .inl ?_⟩
  · have := St.cut_zero hz; exact this
  · cases a <;> simp [Value.ownBlock] at hk ⊢; exact hk

set_option maxRecDepth 100000 in
theorem add_core (z x y : Value) (X Y : Nat) (w : World) (hz : St w z) (hx : Nv w x X) (hy : Nv w y Y) (hX : wlen X ≤ 100000) (hle : wlen Y ≤ wlen X)
    (hzx : z.ownBlock = x.ownBlock ∨ Off (fun k => z.ownBlock = some k) x) (hzy : z.ownBlock = y.ownBlock ∨ Off (fun k => z.ownBlock = some k) y)
    (hX0 : Y = 0 → Off (fun k => z.ownBlock = some k) x) :
    Calls Tryz.prog 148 #[z, x, y] w (Gives z (X + Y) w) := by
  by_cases hY0 : Y = 0
  · subst hY0
    have ho := hX0 rfl
    obtain ⟨ya, yc, rfl⟩ := hy.shape
    rw [wlen_zero, Nat.add_zero] at *
    by_cases h0 : X = 0
    · subst h0
      obtain ⟨xa, xc, rfl⟩ := hx.shape
      obtain ⟨za, zn, zc, rfl⟩ := hz.shape
      rw [wlen_zero]
      have HZ := Lib.hid (hz.gives_zero w ⟨0, rfl⟩)
      clear hz hx hy hX hle hzx hzy hX0 ho
      go_enter Tryz.func148, Tryz.ntmps148
      go_wp2
      all_goals (go_ret; exact HZ.out)
    · obtain ⟨xb, xc, rfl, x1, x2, x3, x4⟩ := hx.pos h0
      have hp : 0 < wlen X := by have := mt wlen_eq_zero.1 h0; omega
      have hset := set_any z _ X w hz hx (by omega) ho
      generalize wlen X = m at *
      have h2 : ((m : Int) == 0) = false := beq_eq_false_iff_ne.2 (by omega)
      go_enter Tryz.func148, Tryz.ntmps148
      go_wp2_with fail
      refine hset.mono ?_
      rintro e w1 ⟨v, rfl, hg⟩
      have HG := Lib.hid (gives_of_set hg)
      clear hg
      go_wp2
      go_ret
      exact HG.out
  · exact add_ge z x y X Y w hz hx hy hX hle hY0 hzx hzy

set_option maxRecDepth 100000 in
theorem add_any (z x y : Value) (X Y : Nat) (w : World) (hz : St w z) (hx : Nv w x X) (hy : Nv w y Y) (hX : wlen X ≤ 100000) (hY : wlen Y ≤ 100000)
    (hzx : z.ownBlock = x.ownBlock ∨ Off (fun k => z.ownBlock = some k) x) (hzy : z.ownBlock = y.ownBlock ∨ Off (fun k => z.ownBlock = some k) y)
    (hX0 : Y = 0 → Off (fun k => z.ownBlock = some k) x) (hY0 : X = 0 → Off (fun k => z.ownBlock = some k) y) :
    Calls Tryz.prog 148 #[z, x, y] w (Gives z (X + Y) w) := by
  by_cases hlt : wlen X < wlen Y
  · have hcore := add_core z y x Y X w hz hy hx hY (by omega) hzy hzx hY0
    rw [Nat.add_comm Y X] at hcore
    have HC := Lib.hid hcore
    obtain ⟨xa, xc, rfl⟩ := hx.shape
    obtain ⟨ya, yc, rfl⟩ := hy.shape
    clear hcore hz hx hy hX hY hzx hzy hX0 hY0
    generalize wlen X = m at *
    generalize wlen Y = n at *
    have hi : (m : Int) < n := by omega
    go_enter Tryz.func148, Tryz.ntmps148
    go_wp2_with fail
    refine HC.out.mono ?_
    rintro e w1 ⟨v, rfl, hg⟩
    have HG := Lib.hid (show Gives z (X + Y) w (.returned v) w1 from ⟨v, rfl, hg⟩)
    clear hg
    go_wp2
    go_ret
    exact HG.out
  · exact add_core z x y X Y w hz hx hy hX (by omega) hzx hzy hX0
end Go.Proofs.YtbnmgopobmiadaaGreatDoor

/- Contract of nat.sub. -/
namespace Go.Proofs.YtbnmgopobmiadaaGreatDoor
open Go.RowKit

theorem sub_split {X Y n : Nat} (hY : Y < B ^ n) (hle : Y ≤ X) :
    bsub (X % B ^ n) Y 0 n ≤ X / B ^ n ∧ (X - Y) / B ^ n = X / B ^ n - bsub (X % B ^ n) Y 0 n ∧ ∀ i, i < n → dig (X % B ^ n + B ^ n - Y) i = dig (X - Y) i := by
  have hp := Bpow_pos n
  have h0 := Nat.mod_lt X hp
  rw [bsub_top h0 hY, Nat.add_zero]
  have hX := Nat.mod_add_div X (B ^ n)
  generalize X % B ^ n = x0 at *
  generalize X / B ^ n = x1 at *
  generalize hc : (if x0 < Y then 1 else 0 : Nat) = c
  have hc1 : c ≤ x1 := by
    split at hc
    · subst hc
      refine Nat.pos_of_ne_zero ?_
      rintro rfl
      rw [Nat.mul_zero] at hX; omega
    · omega
  have e : X - Y = (x0 + c * B ^ n - Y) + B ^ n * (x1 - c) := by
    have : B ^ n * (x1 - c) + c * B ^ n = B ^ n * x1 := by
      rw [Nat.mul_comm c, ← Nat.mul_add]; congr 1; omega
    split at hc <;> subst hc <;> omega
  have hlt : x0 + c * B ^ n - Y < B ^ n := by split at hc <;> subst hc <;> omega
  refine ⟨hc1, ?_, fun i hi => ?_⟩
  · rw [e, Nat.add_mul_div_left _ _ hp, Nat.div_eq_of_lt hlt, Nat.zero_add]
  · rw [← dig_mod (X := x0 + B ^ n - Y) hi, ← dig_mod (X := X - Y) hi]
    congr 1
    rw [e, Nat.add_mul_mod_self_left, Nat.mod_eq_of_lt hlt]
    split at hc <;> subst hc
    · rw [Nat.one_mul, Nat.mod_eq_of_lt (by omega)]
    · rw [show x0 + B ^ n - Y = (x0 - Y) + B ^ n by omega, Nat.add_mod_right, Nat.mod_eq_of_lt (by omega)]; omega
theorem sub_word_split {x c k : Nat} (hx : x < B ^ k) (hc : c ≤ x) (hc1 : c < B) (hk : 0 < k) :
    bsub x c 0 k = 0 ∧ ∀ i, i < k → dig (x + B ^ k - c) i = dig (x - c) i := by
  refine ⟨?_, fun i hi => ?_⟩
  · rw [bsub_top hx (lt_pow_of_lt hc1 hk), if_neg (by omega)]
  · rw [← dig_mod (X := x + B ^ k - c) hi, show x + B ^ k - c = (x - c) + B ^ k by omega, Nat.add_mod_right, dig_mod hi]

set_option maxRecDepth 100000 in
theorem sub_ge (z x y : Value) (X Y : Nat) (w : World) (hz : St w z) (hx : Nv w x X) (hy : Nv w y Y) (hX : wlen X ≤ 100000) (hYX : Y ≤ X) (hY0 : Y ≠ 0)
    (hzx : z.ownBlock = x.ownBlock ∨ Off (fun k => z.ownBlock = some k) x) (hzy : z.ownBlock = y.ownBlock ∨ Off (fun k => z.ownBlock = some k) y) :
    Calls Tryz.prog 142 #[z, x, y] w (Gives z (X - Y) w) := by
  have hle : wlen Y ≤ wlen X := wlen_mono hYX
  have hyl : 0 < wlen Y := by have := mt wlen_eq_zero.1 hY0; omega
  have hX0 : X ≠ 0 := by omega
  have hlx := lt_wlen X
  have hly := lt_wlen Y
  obtain ⟨xb, xc, rfl, x1, x2, x3, x4⟩ := hx.pos hX0
  obtain ⟨yb, yc, rfl, y1, y2, y3, y4⟩ := hy.pos hY0
  generalize hm : wlen X = m at *
  generalize hn : wlen Y = n at *
  have h1 : ¬ (m : Int) < n := by omega
  have h2 : ((m : Int) == 0) = false := beq_eq_false_iff_ne.2 (by omega)
  have h3 : ((n : Int) == 0) = false := beq_eq_false_iff_ne.2 (by omega)
  obtain ⟨s1, s2, s3⟩ := sub_split hly hYX
  have hcl : bsub (X % B ^ n) Y 0 n ≤ 1 := bsub_le _ _ _ _
  have HM := Lib.hid hm
  have HN := Lib.hid hn
  have HLX := Lib.hid hlx
  have HLY := Lib.hid hly
  have HLZ := Lib.hid (show X - Y < B ^ m by omega)
  have HYX := Lib.hid hYX
  have S1 := Lib.hid s1
  have S2 := Lib.hid s2
  have S3 := Lib.hid s3
  have HC := Lib.hid hcl
  have hmk := make_any z m w hz (by omega) (by omega)
  clear hm hn hlx hly hX0 hY0 hYX s1 s2 s3 hcl
  go_enter Tryz.func142, Tryz.ntmps142
  go_wp2_with fail
  refine hmk.mono ?_
  rintro e w1 ⟨b, cap, rfl, k1, k2, k3, k4, k5⟩
  have K5 := Lib.hid k5
  clear hmk k5
  have rx : Rd w1 xb 0 m X := k4.rd x4 x3.lt (fun h => h)
  have ry : Rd w1 yb 0 n Y := k4.rd y4 y3.lt (fun h => h)
  have a1 : n ≤ cap := by omega
  have a2 : n ≤ xc := by omega
  go_wp2
  go_still_tail 9, (by kernel_rfl)
  change wpList _ _ _ _ _ w1.drew
  go_wp2_with fail
  refine (subVV b 0 xb 0 yb 0 n cap xc yc (X % B ^ n) Y w1.drew (by omega) (Nat.mod_lt _ (Bpow_pos n)) HLY.out (k3.mono (by omega)) ((rx.take hle).mod (Nat.le_refl _)) ry (by omega) (by omega)).mono ?_
  rintro e w2 ⟨rfl, hw2'⟩
  have hw2 : Wr w1 w2 b 0 n (X - Y) := hw2'.undrew.congr S3.out
  clear hw2'
  generalize bsub (X % B ^ n) Y 0 n = c at *
  by_cases hgt : n < m
  · have hg : (n : Int) < m := by omega
    have n1 : ¬ cap = n := by omega
    have n2 : ¬ xc = n := by omega
    have a3 : (n : Int) ≤ m := by omega
    go_wp2
    go_still_tail 7, (by kernel_rfl)
    change wpList _ _ _ _ _ w2.drew
    go_wp2_with fail
    have rx2 : Rd w2 xb n (m - n) (X / B ^ n) := by
      have := (rx.drop hle); rw [Nat.zero_add] at this
      exact hw2.rd_out this (by omega)
    have hcB : c < B := Nat.lt_of_le_of_lt HC.out one_lt_B
    obtain ⟨t1, t2⟩ := sub_word_split (div_lt_pow HLX.out hle) S1.out hcB (show 0 < m - n by omega)
    refine (subVW_any b n xb (m - n) (cap - n) (xc - n) (X / B ^ n) c w2.drew (by omega) (by omega) (div_lt_pow HLX.out hle) hcB (by omega) (by omega) ((hw2.wb k3).mono (by omega)) ((hw2.wb (k4.wb x3 (fun h => h))).mono (by omega)) rx2).mono ?_
    rintro e w3 ⟨rfl, hw3'⟩
    rw [t1]
    have hw3 : Wr w1 w3 b 0 m (X - Y) := by
      have h := hw2.join (k := n) (m := m - n) (w2 := w3) (by
        rw [Nat.zero_add, S2.out]; exact hw3'.undrew.congr t2)
      rw [show n + (m - n) = m by omega] at h; exact h
    clear hw3' t1 t2 hcB
    go_wp2_with fail
    refine (norm_any b 0 m cap (X - Y) _ k1 k2 HLZ.out hw3.rd).mono ?_
    rintro e w5 ⟨rfl, rfl⟩
    have HG := Lib.hid (gives_row k4 k3 k2 hw3 k1 HLZ.out K5.out)
    go_wp2
    go_ret
    exact HG.out
  · obtain rfl : m = n := by omega
    have hc0 : c = 0 := by
      have := S1.out
      rw [Nat.div_eq_of_lt HLX.out] at this; omega
    subst hc0
    go_wp2_with fail
    refine (norm_any b 0 m cap (X - Y) _ k1 k2 HLZ.out hw2.rd).mono ?_
    rintro e w5 ⟨rfl, rfl⟩
    have HG := Lib.hid (gives_row k4 k3 k2 hw2 k1 HLZ.out K5.out)
    go_wp2
    go_ret
    exact HG.out

set_option maxRecDepth 100000 in
theorem sub_any (z x y : Value) (X Y : Nat) (w : World) (hz : St w z) (hx : Nv w x X) (hy : Nv w y Y) (hX : wlen X ≤ 100000) (hYX : Y ≤ X)
    (hzx : z.ownBlock = x.ownBlock ∨ Off (fun k => z.ownBlock = some k) x) (hzy : z.ownBlock = y.ownBlock ∨ Off (fun k => z.ownBlock = some k) y)
    (hX0 : Y = 0 → Off (fun k => z.ownBlock = some k) x) :
    Calls Tryz.prog 142 #[z, x, y] w (Gives z (X - Y) w) := by
  by_cases hY0 : Y = 0
  · subst hY0
    have ho := hX0 rfl
    obtain ⟨ya, yc, rfl⟩ := hy.shape
    rw [wlen_zero, Nat.sub_zero] at *
    by_cases h0 : X = 0
    · subst h0
      obtain ⟨xa, xc, rfl⟩ := hx.shape
      obtain ⟨za, zn, zc, rfl⟩ := hz.shape
      rw [wlen_zero]
      have HZ := Lib.hid (hz.gives_zero w ⟨0, rfl⟩)
      clear hz hx hy hX hzx hzy hX0 ho hYX
      go_enter Tryz.func142, Tryz.ntmps142
      go_wp2
      all_goals (go_ret; exact HZ.out)
    · obtain ⟨xb, xc, rfl, x1, x2, x3, x4⟩ := hx.pos h0
      have hp : 0 < wlen X := by have := mt wlen_eq_zero.1 h0; omega
      have hset := set_any z _ X w hz hx (by omega) ho
      generalize wlen X = m at *
      have h2 : ((m : Int) == 0) = false := beq_eq_false_iff_ne.2 (by omega)
      clear hYX
      go_enter Tryz.func142, Tryz.ntmps142
      go_wp2_with fail
      refine hset.mono ?_
      rintro e w1 ⟨v, rfl, hg⟩
      have HG := Lib.hid (gives_of_set hg)
      clear hg
      go_wp2
      go_ret
      exact HG.out
  · exact sub_ge z x y X Y w hz hx hy hX hYX hY0 hzx hzy
end Go.Proofs.YtbnmgopobmiadaaGreatDoor
