/- Contracts of nat.sqr, nat.lsh. -/
import Derived.Test.YtbnmgopobmiadaaGreatDoorB9
import Derived.Outline

set_option linter.unusedSimpArgs false
set_option linter.unusedVariables false

namespace Go.Proofs.YtbnmgopobmiadaaGreatDoor
open Go.RowKit

set_option maxRecDepth 100000 in
theorem sqr_one (z stk x : Value) (X : Nat) (w : World) (hz : St w z) (hx : Nv w x X) (hX0 : X ≠ 0) (hX : X < B) :
    Calls Tryz.prog 91 #[z, stk, x] w (Gives z (X * X) w) := by
  have h1 := wlen_one hX0 hX
  obtain ⟨xb, xc, rfl, x1, x2, x3, x4⟩ := hx.pos hX0
  have hc0 : w.cell? ⟨xb, 0, none⟩ = some (.int .u64 (X : Nat)) := by
    have := x4 0 (by omega); rw [wd, dig_small0 hX] at this; exact this
  rw [h1] at *
  have hmk := make_any z 2 w hz (by omega) (by omega)
  have HX := Lib.hid hX
  clear hX hX0 x4
  go_enter Tryz.func91, Tryz.ntmps91
  go_wp2_with fail
  refine hmk.mono ?_
  rintro e w1 ⟨b, cap, rfl, k1, k2, k3, k4, k5⟩
  have K5 := Lib.hid k5
  clear hmk k5
  obtain ⟨v1, hc1⟩ := k3.cell (i := 1) (by omega)
  obtain ⟨v2, hc2⟩ := k3.cell (i := 0) (by omega)
  rw [Nat.zero_add] at hc1 hc2
  have hf1 := k3.frozen 1
  have hf2 := k3.frozen 0
  go_wp2_with fail
  refine (mulWW X X w1 HX.out HX.out).mono ?_
  rintro e w2 ⟨rfl, rfl⟩
  have e1 : X * X / B = dig (X * X) 1 := by
    have : X * X < B ^ (1 + 1) := by rw [Nat.pow_succ, Nat.pow_one]; exact Nat.mul_lt_mul'' HX.out HX.out
    rw [dig_top this, Nat.pow_one]
  have e2 : X * X % B = dig (X * X) 0 := (dig_zero _).symm
  rw [e1, e2]
  clear e1 e2
  go_wp2_with fail
  have hB : X * X < B ^ 2 := by rw [Nat.pow_succ, Nat.pow_one]; exact Nat.mul_lt_mul'' HX.out HX.out
  have hw : Wr w1 ((w1.setCell ⟨b, 1, none⟩ (.int .u64 (dig (X * X) 1 : Nat))).setCell ⟨b, 0, none⟩ (.int .u64 (dig (X * X) 0 : Nat))) b 0 2 (X * X) := by
    have h1 : Wr w1 (w1.setCell ⟨b, 1, none⟩ (.int .u64 (dig (X * X) 1 : Nat))) b (0 + 1) 1 (X * X / B) :=
      (Wr.start (k3.mono (o' := 1) (n' := 1) (by omega)) _).snoc (k3.mono (o' := 1) (n' := 1) (by omega)) (by omega) (by
        have := dig_shift (X * X) 1 0; rw [Nat.pow_one] at this; rw [wd, this])
    exact h1.cons k3 (by omega) rfl
  refine (norm_any b 0 2 cap (X * X) _ k1 k2 hB hw.rd).mono ?_
  rintro e w5 ⟨rfl, rfl⟩
  have HG := Lib.hid (gives_row k4 k3 k2 hw k1 hB K5.out)
  clear hw hB
  go_wp2
  go_ret
  exact HG.out

set_option maxHeartbeats 1000000 in
set_option maxRecDepth 100000 in
theorem sqr_any (z stk x : Value) (X : Nat) (w : World) (hz : St w z) (hx : Nv w x X) (hX0 : X ≠ 0) (hX : wlen X < 12) (ho : Off (fun k => z.ownBlock = some k) x)
    (hG4 : w.cell? ⟨4, 0, none⟩ = some (.int .i64 12)) (hG5 : w.cell? ⟨5, 0, none⟩ = some (.int .i64 80)) :
    Calls Tryz.prog 91 #[z, stk, x] w (Gives z (X * X) w) := by
  by_cases h1 : wlen X = 1
  · exact sqr_one z stk x X w hz hx hX0 (by have := lt_wlen X; rwa [h1, Nat.pow_one] at this)
  have hl0 : 0 < wlen X := by have := mt wlen_eq_zero.1 hX0; omega
  have hlx := lt_wlen X
  obtain ⟨xb, xc, rfl, x1, x2, x3, x4⟩ := hx.pos hX0
  have hlt := lt_pow_mul hlx hlx
  generalize hm : wlen X = m at *
  have hmk : ∀ q, Calls Tryz.prog 85 #[z, .int .i64 (2 * (m : Int))] (w.drewN q) (Made z (m + m) (w.drewN q)) := by
    intro q
    have := make_any z (m + m) (w.drewN q) hz (by omega) (by omega)
    rwa [show ((m + m : Nat) : Int) = 2 * (m : Int) by omega] at this
  have h2 : ((m : Int) == 0) = false := beq_eq_false_iff_ne.2 (by omega)
  have h3 : ((m : Int) == 1) = false := beq_eq_false_iff_ne.2 (by omega)
  have h4 : (m : Int) < 12 := by omega
  have h5 : (m : Int) < 80 := by omega
  have A1 := Lib.hid (alias_other z _ w hz hx.st ho)
  have HM := Lib.hid hm
  have HL := Lib.hid hlx
  have HT := Lib.hid hlt
  have HO := Lib.hid ho
  have HK := Lib.hid hmk
  clear hm hlx hlt hmk ho h1 hX0 hx
  go_enter Tryz.func91, Tryz.ntmps91
  go_wp2_with fail
  refine A1.out.mono ?_
  rintro e w1 ⟨rfl, q, rfl⟩
  go_wp2_with fail
  refine (HK.out q).mono ?_
  rintro e w1 ⟨b, cap, rfl, k1, k2, k3, k4', k5⟩
  have k4 := k4'.undrewN
  clear k4'
  have hbx : b ≠ xb := by
    rintro rfl
    rcases k5 with k5 | k5
    · exact HO.out _ rfl k5
    · have := x3.lt; have h2 : b = w.heap.size := k5; omega
  have K5 : Hid (z.ownBlock = some b ∨ b = w.heap.size) := Lib.hid k5
  clear k5
  have g4 : w1.cell? ⟨4, 0, none⟩ = some (.int .i64 12) := k4.cell hG4 (fun h => h)
  have g5 : w1.cell? ⟨5, 0, none⟩ = some (.int .i64 80) := k4.cell hG5 (fun h => h)
  have hxl := Nat.lt_of_lt_of_le x3.lt k4.size
  have rx := k4.rd x4 x3.lt (fun h => h)
  go_wp2_with fail
  refine (basicMul b cap xb m xc xb m xc X X w1 (by omega) (by omega) (by omega) (by omega) k1 HL.out HL.out k3 rx hxl rx hxl hbx hbx).mono ?_
  rintro e w2 ⟨rfl, r1, r2, hwb⟩
  go_wp2_with fail
  refine (norm_any b 0 (m + m) cap (X * X) w2 k1 k2 HT.out r1).mono ?_
  rintro e w3 ⟨rfl, rfl⟩
  have hg : Gives z (X * X) w (.returned (.slice (some ⟨b, 0, none⟩) (wlen (X * X)) cap)) w2 := by
    have hl := wlen_le HT.out
    refine ⟨_, rfl, .inr ⟨b, cap, rfl, by omega, k2, hwb, r1.take hl⟩, k4.trans r2 (fun _ h => h.elim) (fun k hk e => ?_), fun k hk => ?_⟩
    · subst e
      rcases K5.out with h5 | h5
      · exact h5
      · omega
    · simp [Value.ownBlock] at hk
      subst hk
      exact K5.out.imp id (fun h => by omega)
  have HG := Lib.hid hg
  clear hg
  go_wp2
  go_ret
  exact HG.out
end Go.Proofs.YtbnmgopobmiadaaGreatDoor

/- Contract of nat.lsh, in place. -/
namespace Go.Proofs.YtbnmgopobmiadaaGreatDoor
open Go.RowKit

theorem run_clear_none (w : World) (a : Option Addr) (c : Nat) : (Builtin.clear_ #[82] 0 #[.slice a 0 c]).run Tryz.prog w = .ok (.tuple #[]) w := by
  cases a <;> simp [Builtin.clear_, run_underlying Tryz.underlying82]

theorem two_pow_split (s : Nat) : 2 ^ s = 2 ^ (s % 64) * B ^ (s / 64) := by
  rw [B_eq, ← Nat.pow_mul, ← Nat.pow_add]; congr 1; omega
theorem dig_mul_pow (Y k i : Nat) : dig (Y * B ^ k) (k + i) = dig Y i := by
  rw [Nat.add_comm, ← dig_shift, Nat.mul_div_cancel _ (Bpow_pos k)]
theorem dig_mul_pow_low (Y : Nat) {k i : Nat} (h : i < k) : dig (Y * B ^ k) i = 0 := by
  rw [← dig_mod h, Nat.mul_mod_left]; exact dig_of_lt (Bpow_pos i)

theorem run_clear_any (w : World) (b n c : Nat) (hw : Wb w b 0 n) :
    ∃ w', (Builtin.clear_ #[82] 0 #[.slice (some ⟨b, 0, none⟩) n c]).run Tryz.prog w = .ok (.tuple #[]) w' ∧ Wr w w' b 0 n 0 := by
  by_cases h : n = 0
  · subst h; exact ⟨w, run_clear_none _ _ _, Wr.start hw 0⟩
  · exact run_clear_words w b n c (by omega) hw
/-- the lower words behind the upper ones -/
theorem Wr.join_low {w w1 w2 : World} {b o k m Z : Nat} (h : Wr w w1 b (o + k) m (Z / B ^ k)) (h' : Wr w1 w2 b o k Z) : Wr w w2 b o (k + m) Z := by
  obtain ⟨c, c', e, h1, h2, h3, h4, h5⟩ := h.blk
  obtain ⟨d, d', e', k1, k2, k3, k4, k5⟩ := h'.blk
  rw [h2] at k1; cases k1
  refine ⟨h'.os.trans h.os, h'.tape.trans h.tape, h'.output.trans h.output, h'.size.trans h.size, fun j hj => (h'.other j hj).trans (h.other j hj), c, d', e, h1, k2, k3.trans h3, fun j hj => ?_, fun i hi => ?_⟩
  · rw [k4 j (by omega)]; exact h4 j (by omega)
  · by_cases hik : i < k
    · exact k5 i hik
    · have := h5 (i - k) (by omega)
      rw [show o + k + (i - k) = o + i by omega] at this
      rw [k4 (o + i) (by omega), this, wd, wd, dig_shift, show i - k + k = i by omega]

set_option maxHeartbeats 1000000 in
set_option maxRecDepth 100000 in
theorem lsh_self (x : Value) (X s : Nat) (w : World) (hx : Nv w x X) (hX0 : X ≠ 0) (hX : wlen X ≤ 1000) (hs0 : 0 < s) (hs : s ≤ 1000) :
    Calls Tryz.prog 48 #[x, x, .int .u64 s] w (Gives x (X * 2 ^ s) w) := by
  have hl0 : 0 < wlen X := by have := mt wlen_eq_zero.1 hX0; omega
  have hlx := lt_wlen X
  have hst := hx.st
  obtain ⟨xb, xc, rfl, x1, x2, x3, x4⟩ := hx.pos hX0
  generalize hm : wlen X = m at *
  have h1 : ((s : Int) == 0) = false := beq_eq_false_iff_ne.2 (by omega)
  have h2 : ((m : Int) == 0) = false := beq_eq_false_iff_ne.2 (by omega)
  have hsplit := two_pow_split s
  obtain ⟨k, hk⟩ : ∃ k, k = s / 64 := ⟨_, rfl⟩
  obtain ⟨r, hr⟩ : ∃ r, r = s % 64 := ⟨_, rfl⟩
  rw [← hk, ← hr] at hsplit
  have hk' : (s : Int) / 64 = (k : Nat) := by omega
  have hr' : (s : Int) % 64 = (r : Nat) := by omega
  have hkb : k ≤ 16 := by omega
  have hrb : r < 64 := by omega
  have hmk := make_any (.slice (some ⟨xb, 0, none⟩) m xc) (m + k + 1) w hst (by omega) (by omega)
  rw [show ((m + k + 1 : Nat) : Int) = (m : Int) + k + 1 by omega] at hmk
  have hlt : X * 2 ^ s < B ^ (m + k + 1) := by
    rw [hsplit, ← Nat.mul_assoc, show m + k + 1 = (m + 1) + k by omega, Nat.pow_add]
    refine Nat.mul_lt_mul_of_pos_right ?_ (Bpow_pos k)
    have e : 2 ^ r < B := by rw [B_eq]; exact Nat.pow_lt_pow_right (by omega) hrb
    rw [Nat.pow_succ]
    exact Nat.mul_lt_mul'' hlx e
  have HM := Lib.hid hm
  have HL := Lib.hid hlx
  have HT := Lib.hid hlt
  have HS := Lib.hid hsplit
  clear hm hlx hlt hsplit hX0 hx hst hk hr
  go_enter Tryz.func48, Tryz.ntmps48
  go_wp2_with fail
  refine hmk.mono ?_
  rintro e w1 ⟨b, cap, rfl, k1, k2, k3, k4, k5⟩
  have K5 := Lib.hid k5
  clear hmk k5
  have rx : Rd w1 xb 0 m X := k4.rd x4 x3.lt (fun h => h)
  have hsub : (m : Int) + k - m = k := by omega
  have hn1 : ¬ cap = k := by omega
  have hn2 : (k : Int) ≤ m + k := by omega
  have hn3 : (m : Int) + k ≤ cap := by omega
  have hn4 : (m : Int) + k < m + k + 1 := by omega
  have hn5 : (k : Int) ≤ cap := by omega
  by_cases hr0 : r = 0
  · subst hr0
    obtain ⟨w2, hrun, hw2⟩ := run_copy_words w1 82 82 3 Tryz.underlying82 b k m (cap - k) xb 0 m xc m X (by simp) (k3.mono (by omega)) rx
    obtain ⟨v0, hc0⟩ := (hw2.wb k3).cell (i := m + k) (by omega)
    rw [Nat.zero_add] at hc0
    have hf0 := (hw2.wb k3).frozen (m + k)
    obtain ⟨w3, hrun3, hw3⟩ := run_clear_any (w2.setCell ⟨b, m + k, none⟩ (.int .u64 0)) b k cap (((hw2.wb k3).setCell _ _).mono (by omega))
    have hfin : Wr w1 w3 b 0 (m + k + 1) (X * 2 ^ s) := by
      have e : X * 2 ^ s = X * B ^ k := by rw [HS.out, Nat.pow_zero, Nat.one_mul]
      have h1 : Wr w1 (w2.setCell ⟨b, k + m, none⟩ (.int .u64 0)) b k (m + 1) X := hw2.snoc (m := m + 1) (k3.mono (by omega)) (by omega) (by rw [wd, dig_of_lt HL.out]; rfl)
      rw [Nat.add_comm k m] at h1
      rw [e]
      have := Wr.join_low (o := 0) (k := k) (m := m + 1) (Z := X * B ^ k) (w2 := w3) (by rw [Nat.zero_add, Nat.mul_div_cancel _ (Bpow_pos k)]; exact h1) (hw3.congr fun i hi => by rw [dig_mul_pow_low X hi, dig_of_lt (Bpow_pos i)])
      rwa [show k + (m + 1) = m + k + 1 by omega] at this
    have HF := Lib.hid hfin
    clear hfin hw3 hw2
    go_wp2_with fail
    refine (norm_any b 0 (m + k + 1) cap (X * 2 ^ s) _ k1 k2 HT.out HF.out.rd).mono ?_
    rintro e w5 ⟨rfl, rfl⟩
    have HG := Lib.hid (gives_row k4 k3 k2 HF.out k1 HT.out K5.out)
    go_wp2
    go_ret
    exact HG.out
  · have hr1 : ((r : Int) == 0) = false := beq_eq_false_iff_ne.2 (by omega)
    have hr2 : 0 < r := by omega
    clear hr0
    go_wp2_with fail
    refine (lshVU b k xb 0 m (cap - k) xc X r w1 (by omega) hl0 hr2 hrb (k3.mono (by omega)) rx (by omega)).mono ?_
    rintro e w2 ⟨rfl, hw2⟩
    have hlt2 : X * 2 ^ r < B ^ (m + 1) := by
      have e : 2 ^ r < B := by rw [B_eq]; exact Nat.pow_lt_pow_right (by omega) hrb
      rw [Nat.pow_succ]; exact Nat.mul_lt_mul'' HL.out e
    have hcar : dig X (m - 1) / 2 ^ (64 - r) = dig (X * 2 ^ r) m := by rw [dig_top hlt2, lsh_top hl0 HL.out (by omega)]
    rw [hcar]
    clear hcar hlt2
    obtain ⟨v0, hc0⟩ := (hw2.wb k3).cell (i := m + k) (by omega)
    rw [Nat.zero_add] at hc0
    have hf0 := (hw2.wb k3).frozen (m + k)
    obtain ⟨w3, hrun3, hw3⟩ := run_clear_any (w2.setCell ⟨b, m + k, none⟩ (.int .u64 (dig (X * 2 ^ r) m : Nat))) b k cap (((hw2.wb k3).setCell _ _).mono (by omega))
    have hfin : Wr w1 w3 b 0 (m + k + 1) (X * 2 ^ s) := by
      have e : X * 2 ^ s = X * 2 ^ r * B ^ k := by rw [HS.out, Nat.mul_assoc]
      have h1 : Wr w1 (w2.setCell ⟨b, k + m, none⟩ (.int .u64 (dig (X * 2 ^ r) m : Nat))) b k (m + 1) (X * 2 ^ r) := hw2.snoc (m := m + 1) (k3.mono (by omega)) (by omega) rfl
      rw [Nat.add_comm k m] at h1
      rw [e]
      have := Wr.join_low (o := 0) (k := k) (m := m + 1) (Z := X * 2 ^ r * B ^ k) (w2 := w3) (by rw [Nat.zero_add, Nat.mul_div_cancel _ (Bpow_pos k)]; exact h1) (hw3.congr fun i hi => by rw [dig_mul_pow_low (X * 2 ^ r) hi, dig_of_lt (Bpow_pos i)])
      rwa [show k + (m + 1) = m + k + 1 by omega] at this
    have HF := Lib.hid hfin
    clear hfin hw3 hw2
    go_wp2_with fail
    refine (norm_any b 0 (m + k + 1) cap (X * 2 ^ s) _ k1 k2 HT.out HF.out.rd).mono ?_
    rintro e w5 ⟨rfl, rfl⟩
    have HG := Lib.hid (gives_row k4 k3 k2 HF.out k1 HT.out K5.out)
    go_wp2
    go_ret
    exact HG.out
end Go.Proofs.YtbnmgopobmiadaaGreatDoor
