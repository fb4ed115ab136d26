/- Contracts of alias, nat.mulAddWW, basicMul. -/
import Derived.Test.YtbnmgopobmiadaaGreatDoorB5
import Derived.Outline
import Derived.Lib.SliceRun
import Derived.RegionTactic
import Derived.Deep.RegionWith

set_option linter.unusedSimpArgs false
set_option linter.unusedVariables false

namespace Go.Proofs.YtbnmgopobmiadaaGreatDoor
open Go.RowKit

set_option maxRecDepth 100000 in
theorem mulAddWW_pos (z x : Value) (X y r : Nat) (w : World) (hz : St w z) (hx : Nv w x X) (hX : wlen X ≤ 100000) (hX0 : X ≠ 0) (hy0 : y ≠ 0) (hy : y < B) (hr : r < B)
    (hzx : z.ownBlock = x.ownBlock ∨ Off (fun k => z.ownBlock = some k) x) :
    Calls Tryz.prog 70 #[z, x, .int .u64 y, .int .u64 r] w (Gives z (X * y + r) w) := by
  have hp : 0 < wlen X := by have := mt wlen_eq_zero.1 hX0; omega
  have hlx := lt_wlen X
  obtain ⟨xb, xc, rfl, x1, x2, x3, x4⟩ := hx.pos hX0
  generalize hm : wlen X = m at *
  have h2 : ((m : Int) == 0) = false := beq_eq_false_iff_ne.2 (by omega)
  have h3 : ((y : Int) == 0) = false := beq_eq_false_iff_ne.2 (by omega)
  have hlt : X * y + r < B ^ (m + 1) := by
    have h1 : X * y + r < B ^ m * B := by
      have e1 : X * y ≤ (B ^ m - 1) * (B - 1) := Nat.mul_le_mul (by omega) (by omega)
      have e2 : (B ^ m - 1) * (B - 1) + (B ^ m - 1) + B = B ^ m * B := by
        have hp := Bpow_pos m
        obtain ⟨q, hq⟩ : ∃ q, B ^ m = q + 1 := ⟨B ^ m - 1, by omega⟩
        obtain ⟨b, hb⟩ : ∃ b, B = b + 1 := ⟨B - 1, by have := B_pos; omega⟩
        rw [hq, hb]; simp only [Nat.add_sub_cancel, Nat.add_mul, Nat.mul_add]; omega
      omega
    exact h1
  have hcar : cmul X y r m = dig (X * y + r) m := by rw [dig_top hlt, cmul_top hlx]
  have HM := Lib.hid hm
  have HL := Lib.hid hlt
  have HC := Lib.hid hcar
  have HY := Lib.hid hy
  have HR := Lib.hid hr
  have hmk := make_any z (m + 1) w hz (by omega) (by omega)
  rw [show ((m + 1 : Nat) : Int) = (m : Int) + 1 by omega] at hmk
  clear hm hlx hX0 hy0 hlt hcar hy hr
  go_enter Tryz.func70, Tryz.ntmps70
  go_wp2_with fail
  refine hmk.mono ?_
  rintro e w1 ⟨b, cap, rfl, k1, k2, k3, k4, k5⟩
  have K5 := Lib.hid k5
  clear hmk k5
  have rx : Rd w1 xb 0 m X := k4.rd x4 x3.lt (fun h => h)
  have a1 : m ≤ cap := by omega
  go_wp2_with fail
  refine (mulAddVWW b 0 xb 0 m cap xc X y r w1 (by omega) HY.out HR.out (k3.mono (by omega)) rx (by omega)).mono ?_
  rintro e w2 ⟨rfl, hw2⟩
  have hcell := (hw2.wb k3).cell (i := m) (by omega)
  rw [Nat.zero_add] at hcell
  obtain ⟨v0, hc0⟩ := hcell
  have hf0 := (hw2.wb k3).frozen m
  have hm1 : (m : Int) < m + 1 := by omega
  go_wp2_with fail
  have hw4 := hw2.snoc k3 (by omega) (v := .int .u64 (cmul X y r m : Nat)) (by rw [HC.out]; rfl)
  rw [Nat.zero_add] at hw4
  refine (norm_any b 0 (m + 1) cap (X * y + r) _ k1 k2 HL.out hw4.rd).mono ?_
  rintro e w5 ⟨rfl, rfl⟩
  have HG := Lib.hid (gives_row k4 k3 k2 hw4 k1 HL.out K5.out)
  clear hw4
  go_wp2
  go_ret
  exact HG.out

set_option maxRecDepth 100000 in
theorem mulAddWW_any (z x : Value) (X y r : Nat) (w : World) (hz : St w z) (hx : Nv w x X) (hX : wlen X ≤ 100000) (hy : y < B) (hr : r < B)
    (hzx : z.ownBlock = x.ownBlock ∨ Off (fun k => z.ownBlock = some k) x) :
    Calls Tryz.prog 70 #[z, x, .int .u64 y, .int .u64 r] w (Gives z (X * y + r) w) := by
  by_cases h : X = 0 ∨ y = 0
  · have hset := setWord_any z r w hz hr
    have e0 : X * y + r = r := by rcases h with h | h <;> subst h <;> simp
    rw [e0]
    obtain ⟨xa, xc, rfl⟩ := hx.shape
    by_cases h0 : X = 0
    · subst h0
      rw [wlen_zero]
      clear hz hx hX hzx hy hr e0 h
      go_enter Tryz.func70, Tryz.ntmps70
      go_wp2_with fail
      refine hset.mono ?_
      rintro e w1 ⟨v, rfl, hg⟩
      have HG := Lib.hid (gives_of_set hg)
      clear hg
      go_wp2
      go_ret
      exact HG.out
    · have hp : 0 < wlen X := by have := mt wlen_eq_zero.1 h0; omega
      have hy0 : y = 0 := by rcases h with h | h; exact absurd h h0; exact h
      subst hy0
      generalize wlen X = m at *
      have h2 : ((m : Int) == 0) = false := beq_eq_false_iff_ne.2 (by omega)
      clear hz hx hX hzx hy hr e0 h h0
      go_enter Tryz.func70, Tryz.ntmps70
      go_wp2_with fail
      refine hset.mono ?_
      rintro e w1 ⟨v, rfl, hg⟩
      have HG := Lib.hid (gives_of_set hg)
      clear hg
      go_wp2
      go_ret
      exact HG.out
  · exact mulAddWW_pos z x X y r w hz hx hX (by omega) (by omega) hy hr hzx

set_option maxRecDepth 100000 in
theorem alias_zero (a : Option Addr) (n : Nat) (x : Value) (w : World) : Calls Tryz.prog 82 #[.slice a n 0, x] w (Drawn (.bool false) w) := by
  go_enter Tryz.func82, Tryz.ntmps82
  go_wp2
  go_quiet (fail)
  go_wp2
  go_ret
  exact ⟨rfl, _, rfl⟩
set_option maxRecDepth 100000 in
theorem alias_zero2 (a b : Option Addr) (n m c : Nat) (w : World) (hc : 0 < c) : Calls Tryz.prog 82 #[.slice a n c, .slice b m 0] w (Drawn (.bool false) w) := by
  have h1 : (0 : Int) < c := by omega
  go_enter Tryz.func82, Tryz.ntmps82
  go_wp2
  go_quiet (fail)
  go_wp2
  go_ret
  exact ⟨rfl, _, rfl⟩
set_option maxRecDepth 100000 in
theorem alias_rows (zb zn zc xb xn xc : Nat) (w : World) (r : Bool) (hzc : 0 < zc) (hxc : 0 < xc) (hzm : zc ≤ 4611686018427387904) (hxm : xc ≤ 4611686018427387904)
    (hr : ∀ k, (binOp .eql 338 (.pointer (some ⟨zb, zc - 1, none⟩)) (.pointer (some ⟨xb, xc - 1, none⟩))).run Tryz.prog (w.drewN k) = .ok (.bool r) (w.drewN k)) :
    Calls Tryz.prog 82 #[.slice (some ⟨zb, 0, none⟩) zn zc, .slice (some ⟨xb, 0, none⟩) xn xc] w (Drawn (.bool r) w) := by
  have h1 : (0 : Int) < zc := by omega
  have h2 : (0 : Int) < xc := by omega
  have h3 : (zc : Int) - 1 < zc := by omega
  have h4 : (xc : Int) - 1 < xc := by omega
  have h5 : (0 : Int) ≤ zc - 1 := by omega
  have h6 : (0 : Int) ≤ xc - 1 := by omega
  go_enter Tryz.func82, Tryz.ntmps82
  go_wp2
  go_quiet (fail)
  go_wp2
  go_ret
  exact ⟨rfl, _, rfl⟩
theorem alias_other (z x : Value) (w : World) (hz : St w z) (hx : St w x) (ho : Off (fun k => z.ownBlock = some k) x) :
    Calls Tryz.prog 82 #[z, x] w (Drawn (.bool false) w) := by
  rcases hz with rfl | ⟨zb, zn, zc, rfl, z1, z2, z3⟩
  · exact alias_zero _ _ _ _
  · by_cases h0 : zc = 0
    · subst h0; exact alias_zero _ _ _ _
    · rcases hx with rfl | ⟨xb, xn, xc, rfl, x1, x2, x3⟩
      · exact alias_zero2 _ _ _ _ _ _ (by omega)
      · by_cases h1 : xc = 0
        · subst h1; exact alias_zero2 _ _ _ _ _ _ (by omega)
        · have hne : zb ≠ xb := fun h => ho xb rfl (by rw [h]; rfl)
          exact alias_rows zb zn zc xb xn xc w false (by omega) (by omega) z2 x2 fun k =>
            eql_ptr_other (na := 0) (nb := 0) (w.drewN k) (fun h => hne (congrArg Addr.block h)) (z3.mono (by omega)) (x3.mono (by omega))
theorem alias_same (b n m c : Nat) (w : World) (hc : 0 < c) (hm : c ≤ 4611686018427387904) :
    Calls Tryz.prog 82 #[.slice (some ⟨b, 0, none⟩) n c, .slice (some ⟨b, 0, none⟩) m c] w (Drawn (.bool true) w) :=
  alias_rows b n c b m c w true hc hc hm hm fun _ => eql_ptr_same _ _

theorem wr_setCells_zero {w : World} {b o m : Nat} (hw : Wb w b o m) (n : Nat) : ∀ (k : Nat) (w' : World), k + n ≤ m → Wr w w' b o k 0 → Wr w (w'.setCells b (o + k) (List.replicate n (.int .u64 0))) b o (k + n) 0 := by
  induction n with
  | zero => intro k w' _ h; exact h
  | succ n ih =>
    intro k w' hk h
    rw [List.replicate_succ]
    have h1 := h.snoc hw (by omega) (v := .int .u64 0) (by rw [wd, dig_of_lt (Bpow_pos _)]; rfl)
    have h2 := ih (k + 1) _ (by omega) h1
    rw [show k + 1 + n = k + (n + 1) by omega] at h2
    exact h2
theorem run_clear_words (w : World) (b n c : Nat) (hn : 0 < n) (hw : Wb w b 0 n) :
    ∃ w', (Builtin.clear_ #[82] 0 #[.slice (some ⟨b, 0, none⟩) n c]).run Tryz.prog w = .ok (.tuple #[]) w' ∧ Wr w w' b 0 n 0 := by
  have h := Lib.run_clear_slice (P := Tryz.prog) w 82 136 0 (.int .u64 0) Tryz.underlying82 (fun _ => by kernel_rfl) rfl rfl b 0 n c hn
    (fun j hj => by obtain ⟨v, hv⟩ := hw.cell (i := j) hj; rw [hv]; rfl) (fun j _ => hw.frozen _)
  refine ⟨_, h, ?_⟩
  have := wr_setCells_zero hw n 0 w (by omega) (Wr.start hw 0)
  rw [Nat.zero_add, Nat.zero_add] at this
  exact this

theorem bmul_step {X Y i m : Nat} (hX : X < B ^ m) :
    let Z := X * (Y % B ^ i)
    let d := dig Y i
    let Z' := X * (Y % B ^ (i + 1))
    Z < B ^ (m + i) ∧ Z / B ^ i < B ^ m ∧ (∀ j, j < i → dig Z j = dig Z' j) ∧ (∀ j, dig (Z / B ^ i + X * d) j = dig Z' (i + j)) ∧ Z / B ^ i + X * d < B ^ (m + 1) := by
  intro Z d Z'
  have hp := Bpow_pos i
  have hY := Nat.mod_lt Y hp
  have h1 : Z < B ^ (m + i) := lt_pow_mul hX hY
  have h2 : Z / B ^ i < B ^ m := by rw [Nat.div_lt_iff_lt_mul hp, ← Nat.pow_add]; exact h1
  have e : Z' = Z + B ^ i * (X * d) := by
    show X * (Y % B ^ (i + 1)) = _
    rw [mod_succ, Nat.mul_add, Nat.mul_left_comm]
  have e2 : Z' / B ^ i = Z / B ^ i + X * d := by rw [e, Nat.add_mul_div_left _ _ hp]
  refine ⟨h1, h2, fun j hj => ?_, fun j => ?_, ?_⟩
  · rw [← dig_mod (X := Z) hj, ← dig_mod (X := Z') hj, e, Nat.add_mul_mod_self_left]
  · rw [← e2, dig_shift, Nat.add_comm]
  · rw [← e2, Nat.div_lt_iff_lt_mul hp, ← Nat.pow_add]
    have := lt_pow_mul hX (Nat.mod_lt Y (Bpow_pos (i + 1)))
    rw [show m + 1 + i = m + (i + 1) by omega]; exact this

set_option maxHeartbeats 4000000 in
set_option maxRecDepth 100000 in
theorem basicMul (zb zc xb m xc yb n yc X Y : Nat) (w : World) (hm0 : 0 < m) (hn0 : 0 < n) (hm : m ≤ 100000) (hn : n ≤ 100000) (hmn : m + n ≤ zc) (hX : X < B ^ m) (hY : Y < B ^ n)
    (hz : Wb w zb 0 zc) (hx : Rd w xb 0 m X) (hxl : xb < w.heap.size) (hy : Rd w yb 0 n Y) (hyl : yb < w.heap.size) (hzx : zb ≠ xb) (hzy : zb ≠ yb) :
    Calls Tryz.prog 92 #[.slice (some ⟨zb, 0, none⟩) (m + n) zc, .slice (some ⟨xb, 0, none⟩) m xc, .slice (some ⟨yb, 0, none⟩) n yc] w fun e w' =>
      e = .returned (.tuple #[]) ∧ Rd w' zb 0 (m + n) (X * Y) ∧ Chg (· = zb) w w' ∧ Wb w' zb 0 zc := by
  obtain ⟨w0, hrun, hw0⟩ := run_clear_words w zb (m + n) zc (by omega) (hz.mono (by omega))
  have HX := Lib.hid hX
  have HY := Lib.hid hY
  clear hX hY
  have hle : (m : Int) + n ≤ zc := by omega
  go_enter Tryz.func92, Tryz.ntmps92
  go_wp2
  go_loopw [17] (fun i wr => ∃ k : Nat, k ≤ n ∧ i = .int .i64 k ∧ Rd wr zb 0 (m + n) (X * (Y % B ^ k)) ∧ Chg (· = zb) w wr ∧ Wb wr zb 0 zc) (fun i _ => n - (intOf i).toNat)
  case atStart => exact ⟨0, by omega, rfl, by rw [Nat.pow_zero, Nat.mod_one, Nat.mul_zero]; exact hw0.rd, hw0.chg, hw0.wb hz⟩
  case round =>
    obtain ⟨k, hk, rfl, hr, hch, hwb⟩ := hrel
    by_cases hlt : k < n
    · have hcy : wr.cell? ⟨yb, k, none⟩ = some (.int .u64 (dig Y k : Nat)) := by have := hch.rd hy hyl (fun h => hzy h.symm) k hlt; rwa [Nat.zero_add] at this
      obtain ⟨b1, b2, b3, b4, b5⟩ := bmul_step (X := X) (Y := Y) (i := k) HX.out
      have hkn : (k : Int) < n := by omega
      by_cases h0 : dig Y k = 0
      · have hz0 : ((dig Y k : Nat) : Int) = 0 := by omega
        rw [hz0] at hcy
        have e : Hid (X * (Y % B ^ (k + 1)) = X * (Y % B ^ k)) := by rw [mod_succ, h0, Nat.mul_zero, Nat.add_zero]; exact Lib.hid rfl
        clear b1 b2 b3 b4 b5 hz0 h0
        go_wp2
        go_roundw
        case rel => exact ⟨k + 1, by omega, by go_num, by rw [e.out]; exact hr, hch, hwb⟩
        case measure => simp [intOf]; omega
      · have hne : (((dig Y k : Nat) : Int) != 0) = true := by rw [bne_iff_ne]; omega
        have H2 := Lib.hid b2
        have H3 := Lib.hid b3
        have H4 := Lib.hid b4
        have H5 := Lib.hid b5
        have hdl := Lib.hid (dig_lt Y k)
        clear b1 b2 b3 b4 b5 h0
        have n1 : ¬ zc = k := by omega
        have a1 : (k : Int) + m ≤ zc := by omega
        have a2 : k + m ≤ zc := by omega
        have a3 : (m : Int) + k < m + n := by omega
        have a4 : IntKind.i64.wrap ((k : Int) + m) = k + m := IntWalk.i64_in _ (by omega)
        have a5 : IntKind.i64.wrap ((m : Int) + k) = m + k := IntWalk.i64_in _ (by omega)
        have a6 : ((k : Int) + m).toNat = k + m := by omega
        have a7 : (k : Int) ≤ k + m := by omega
        have a8 : (0 : Int) ≤ k + m := by omega
        have a9 : k + m - k = m := by omega
        go_wp2
        have rz : Rd wr zb k m (X * (Y % B ^ k) / B ^ k) := by
          have := (hr.drop (k := k) (by omega)).take (m := m) (by omega); rwa [Nat.zero_add] at this
        have hcar : cam (X * (Y % B ^ k) / B ^ k) X (dig Y k) 0 m = dig (X * (Y % B ^ k) / B ^ k + X * dig Y k) m := by
          rw [dig_top H5.out, cam_top H2.out HX.out, Nat.add_zero]
        have HR := Lib.hid hcar
        clear hcar
        have hcall := addMulVVWW zb k zb k xb 0 m (zc - k) (zc - k) xc (X * (Y % B ^ k) / B ^ k) X (dig Y k) 0 wr.drew (by omega) hdl.out B_pos (hwb.mono (by omega)) rz (hch.rd hx hxl (fun h => hzx h.symm)) (by omega) (by omega)
        have HCALL := Lib.hid hcall
        clear hcall rz
        go_region_with (go_at_call 153; refine HCALL.out.mono ?_; rintro e w2 ⟨rfl, hw2⟩; obtain ⟨v0, hc0⟩ := (hw2.undrew.wb hwb).cell (i := m + k) (by omega); rw [Nat.zero_add] at hc0; have hf0 := (hw2.undrew.wb hwb).frozen (m + k))
        have hw2' := hw2.undrew
        clear a4 a5 a6 a9 HCALL hw2
        go_wp2
        go_roundw
        case rel =>
          have hw3 := hw2'.snoc (m := m + 1) (hwb.mono (by omega)) (by omega) (v := .int .u64 (cam (X * (Y % B ^ k) / B ^ k) X (dig Y k) 0 m : Nat)) (by rw [HR.out]; rfl)
          rw [show k + m = m + k by omega] at hw3
          refine ⟨k + 1, by omega, by go_num, fun j hj => ?_, (hch.trans hw3.chg (fun _ h => h) (fun _ _ h => h)), hw3.wb hwb⟩
          rw [Nat.zero_add]
          by_cases j1 : j < k
          · rw [hw3.cell_out (by dsimp only; omega)]
            have := hr j hj
            rw [Nat.zero_add] at this
            rw [this, wd, wd, H3.out j j1]
          · by_cases j2 : j < k + (m + 1)
            · have := hw3.cell_in (i := j - k) (by omega)
              rw [show k + (j - k) = j by omega] at this
              rw [this, wd, wd, Nat.add_zero, H4.out, show k + (j - k) = j by omega]
            · rw [hw3.cell_out (by dsimp only; omega)]
              have := hr j hj
              rw [Nat.zero_add] at this
              rw [this, wd, wd]
              have z1 : dig (X * (Y % B ^ k)) j = 0 := dig_of_lt (Nat.lt_of_lt_of_le (lt_pow_mul HX.out (Nat.mod_lt Y (Bpow_pos k))) (Nat.pow_le_pow_right B_pos (by omega)))
              have z2 : dig (X * (Y % B ^ (k + 1))) j = 0 := dig_of_lt (Nat.lt_of_lt_of_le (lt_pow_mul HX.out (Nat.mod_lt Y (Bpow_pos (k + 1)))) (Nat.pow_le_pow_right B_pos (by omega)))
              rw [z1, z2]
        case measure => simp [intOf]; omega
    · obtain rfl : k = n := by omega
      go_wp2
      go_end0
      refine ⟨rfl, ?_, hch, hwb⟩
      rw [Nat.mod_eq_of_lt HY.out] at hr
      exact hr
end Go.Proofs.YtbnmgopobmiadaaGreatDoor
