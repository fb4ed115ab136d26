/- Contracts of bigall's addVW and subVW. -/
import Derived.Test.YtbnmgopobmiadaaGreatDoorB2
import Derived.Outline
import Derived.LaidEqlPtr

set_option linter.unusedSimpArgs false
set_option linter.unusedVariables false

namespace Go.Proofs.YtbnmgopobmiadaaGreatDoor
open Go.RowKit

theorem pow_pred_mul {n : Nat} (hn : 0 < n) : B ^ n = B * B ^ (n - 1) := by
  obtain ⟨m, rfl⟩ : ∃ m, n = m + 1 := ⟨n - 1, by omega⟩
  rw [Nat.pow_succ, Nat.mul_comm]; rfl
theorem lt_pow_of_lt {y n : Nat} (hy : y < B) (hn : 0 < n) : y < B ^ n := by
  rw [pow_pred_mul hn]
  exact Nat.lt_of_lt_of_le hy (Nat.le_mul_of_pos_right _ (Bpow_pos _))
theorem dig_small {y i : Nat} (hy : y < B) (hi : 0 < i) : dig y i = 0 := dig_of_lt (lt_pow_of_lt hy hi)
theorem dig_small0 {y : Nat} (hy : y < B) : dig y 0 = y := by rw [dig_zero, Nat.mod_eq_of_lt hy]

/-- X - y, a word: below the place to which the borrow comes the words are those of the difference, behind it those of X -/
theorem sub_rest {X y n i : Nat} (hX : X < B ^ n) (hy : y < B) (hi : 0 < i) (hin : i < n) (hb : bsub X y 0 i = 0) : dig (X + B ^ n - y) i = dig X i := by
  have h := bsub_dig X y 0 n i (by omega) hX (lt_pow_of_lt hy (by omega)) hin
  rw [hb, dig_small hy hi, Nat.sub_zero, Nat.sub_zero, Nat.sub_zero, Nat.add_comm, Nat.add_mod_right, Nat.mod_eq_of_lt (dig_lt _ _)] at h
  exact h.symm
theorem sub_rest_all {X y i : Nat} (hy : y < B) (hi : 0 < i) (hb : bsub X y 0 i = 0) : ∀ j, i ≤ j → bsub X y 0 j = 0 := by
  intro j hj
  induction j with
  | zero => omega
  | succ j ih =>
    by_cases h : i = j + 1
    · rw [← h]; exact hb
    · have := ih (by omega)
      rw [bsub_succ X y 0 j (by omega), this, dig_small hy (by omega)]; simp

theorem eql_ptr_same (a : Addr) (w : World) : (binOp .eql 338 (.pointer (some a)) (.pointer (some a))).run Tryz.prog w = .ok (.bool true) w := by
  obtain ⟨i0, hi, _⟩ := info_parts info136
  exact run_eql_ptr_same w a Tryz.underlying338 hi
theorem eql_ptr_other {a b : Addr} {na nb : Nat} (w : World) (hne : a ≠ b) (ha : Wb w a.block 0 na) (hb : Wb w b.block 0 nb) :
    (binOp .eql 338 (.pointer (some a)) (.pointer (some b))).run Tryz.prog w = .ok (.bool false) w := by
  obtain ⟨i0, hi, hz0, hz1, hz2⟩ := info_parts info136
  obtain ⟨ca, ta, h1, _⟩ := ha
  obtain ⟨cb, tb, h2, _⟩ := hb
  exact run_eql_ptr_other w Tryz.underlying338 hi (by rw [hz1]; omega) hne h1 h2
theorem neq_of_eql {a b : Addr} {r : Bool} {w : World} (h : (binOp .eql 338 (.pointer (some a)) (.pointer (some b))).run Tryz.prog w = .ok (.bool r) w) :
    (binOp .neq 338 (.pointer (some a)) (.pointer (some b))).run Tryz.prog w = .ok (.bool (!r)) w := by
  simp only [binOp] at h ⊢
  cases hq : (Op.equal 338 (.pointer (some a)) (.pointer (some b))).run Tryz.prog w with
  | ok c w' => simp [hq] at h ⊢; exact ⟨by rw [h.1], h.2⟩
  | halt c w' => simp [hq] at h
theorem neq_ptr_same (a : Addr) (w : World) : (binOp .neq 338 (.pointer (some a)) (.pointer (some a))).run Tryz.prog w = .ok (.bool false) w :=
  neq_of_eql (eql_ptr_same a w)

set_option maxRecDepth 100000 in
theorem subVW_same (b o n c1 c2 X y : Nat) (w : World) (hn : n ≤ 4611686018427387904) (hn0 : 0 < n) (hX : X < B ^ n) (hy : y < B)
    (hz : Wb w b o n) (hx : Rd w b o n X) :
    Calls Tryz.prog 183 #[.slice (some ⟨b, o, none⟩) n c1, .slice (some ⟨b, o, none⟩) n c2, .int .u64 y] w fun e w' =>
      e = .returned (.int .u64 (bsub X y 0 n : Nat)) ∧ Wr w w' b o n (X + B ^ n - y) := by
  have hc0 : w.cell? ⟨b, o, none⟩ = some (.int .u64 (dig X 0 : Nat)) := hx 0 hn0
  have hf0 : w.frozen? ⟨b, o, none⟩ = false := hz.frozen o
  have hn1 : ((n : Int) == 0) = false := by simp; omega
  have E0 : Hid (wsub (dig X 0) y 0 = dig (X + B ^ n - y) 0 ∧ bor (dig X 0) y 0 = bsub X y 0 1) := by
    have h1 := bsub_dig X y 0 n 0 (by omega) hX (lt_pow_of_lt hy hn0) hn0
    have h2 := bsub_succ X y 0 0 (by omega)
    rw [bsub_zero X y (by omega), dig_small0 hy] at h1 h2
    rw [Nat.sub_zero, Nat.sub_zero] at h1
    refine Lib.hid ⟨?_, h2.symm⟩
    unfold wsub; rw [Nat.sub_zero, Nat.add_comm, h1]
  have hw1 : Wr w (w.setCell ⟨b, o, none⟩ (.int .u64 (wsub (dig X 0) y 0 : Nat))) b o 1 (X + B ^ n - y) := by
    have := (Wr.start hz (X + B ^ n - y)).snoc hz hn0 (v := .int .u64 (wsub (dig X 0) y 0 : Nat)) (by rw [E0.out.1]; rfl)
    exact this
  have HX := Lib.hid hX
  have HY := Lib.hid hy
  clear hX hy
  have hpp := neq_ptr_same ⟨b, o, none⟩
  by_cases hb : bor (dig X 0) y 0 = 0
  · have hbz : ((bor (dig X 0) y 0 : Nat) : Int) = 0 := by omega
    have HB := Lib.hid hb
    clear hb
    go_enter Tryz.func183, Tryz.ntmps183
    go_wp2_with fail
    refine (bits_Sub0 _ _ _).mono ?_
    rintro e w' ⟨rfl, rfl⟩
    go_wp2
    go_quiet (fail)
    go_wp2
    go_ret
    have hb1 : bsub X y 0 1 = 0 := by rw [← E0.out.2]; exact HB.out
    refine ⟨?_, ?_⟩
    · rw [sub_rest_all HY.out (by omega) hb1 n (by omega)]; rfl
    · refine (hw1.extend (by omega) (fun j h1 h2 => ?_)).drewN _
      rw [wd, sub_rest HX.out HY.out (by omega) h2 (sub_rest_all HY.out (by omega) hb1 j h1)]
      exact hx j h2
  · have hbz : ((bor (dig X 0) y 0 : Nat) : Int) = 1 := by
      have : bor (dig X 0) y 0 ≤ 1 := by unfold bor; split <;> omega
      omega
    have HB := Lib.hid hb
    clear hb
    go_enter Tryz.func183, Tryz.ntmps183
    go_wp2_with fail
    refine (bits_Sub0 _ _ _).mono ?_
    rintro e w' ⟨rfl, rfl⟩
    go_wp2
    go_loopw [9] (fun i wr => ∃ k : Nat, 0 < k ∧ k ≤ n ∧ i = .int .i64 k ∧ Wr w wr b o k (X + B ^ n - y) ∧ Hid (bsub X y 0 k = 1)) (fun i _ => n - (intOf i).toNat)
    case atStart => exact ⟨1, by omega, by omega, rfl, hw1, by
      rw [← E0.out.2]; exact Lib.hid (by omega)⟩
    case round =>
      obtain ⟨k, hk0, hk, rfl, hwr, hbk⟩ := hrel
      by_cases hlt : k < n
      · have hcx : wr.cell? ⟨b, o + k, none⟩ = some (.int .u64 (dig X k : Nat)) := by rw [hwr.cell_out (by dsimp only; omega)]; exact hx k hlt
        have hzf : wr.frozen? ⟨b, o + k, none⟩ = false := (hwr.wb hz).frozen _
        have hd := bsub_dig X y 0 n k (by omega) HX.out (lt_pow_of_lt HY.out hn0) hlt
        have hs := bsub_succ X y 0 k (by omega)
        rw [hbk.out, dig_small HY.out hk0, Nat.sub_zero, Nat.sub_zero] at hd
        rw [hbk.out, dig_small HY.out hk0] at hs
        by_cases h0 : dig X k = 0
        · have hz0 : ((dig X k : Nat) : Int) = 0 := by omega
          rw [hz0] at hcx
          have HD : Hid (Value.int .u64 18446744073709551615 = wd (X + B ^ n - y) k) := by
            rw [wd, ← hd, h0]; exact Lib.hid rfl
          have HS : Hid (bsub X y 0 (k + 1) = 1) := by rw [hs, h0]; exact Lib.hid rfl
          clear hd hs h0 hz0
          go_wp2
          go_roundw
          case rel => exact ⟨k + 1, by omega, by omega, by go_num, hwr.snoc hz hlt HD.out, HS⟩
          case measure => simp [intOf]; omega
        · have hne : (((dig X k : Nat) : Int) != 0) = true := by simp; exact h0
          have hd1 : 1 ≤ dig X k := by omega
          have hlt2 := dig_lt X k
          have HD : Hid (Value.int .u64 ((dig X k : Nat) - 1) = wd (X + B ^ n - y) k) := by
            rw [Nat.add_sub_assoc hd1, Nat.add_mod_left, Nat.mod_eq_of_lt (by omega)] at hd
            rw [wd, ← hd, Int.ofNat_sub hd1]; exact Lib.hid rfl
          have HS : Hid (bsub X y 0 (k + 1) = 0) := by rw [hs]; exact Lib.hid (if_neg (by omega))
          have hub : ((dig X k : Nat) : Int) ≤ 18446744073709551615 := by unfold B at hlt2; omega
          clear hd hs h0 hlt2
          go_wp2
          go_quiet (fail)
          go_wp2
          go_ret
          refine ⟨?_, ?_⟩
          · rw [sub_rest_all HY.out (by omega) HS.out n (by omega)]; rfl
          · refine ((hwr.snoc hz hlt HD.out).extend (by omega) (fun j h1 h2 => ?_)).drewN _
            rw [wd, sub_rest HX.out HY.out (by omega) h2 (sub_rest_all HY.out (by omega) HS.out j h1)]
            exact hx j h2
      · obtain rfl : k = n := by omega
        go_wp2
        go_ret
        exact ⟨by rw [hbk.out]; rfl, hwr⟩

theorem neq_ptr_other {a b : Addr} {na nb : Nat} (w : World) (hne : a ≠ b) (ha : Wb w a.block 0 na) (hb : Wb w b.block 0 nb) :
    (binOp .neq 338 (.pointer (some a)) (.pointer (some b))).run Tryz.prog w = .ok (.bool true) w :=
  neq_of_eql (eql_ptr_other w hne ha hb)
theorem Wb.drewN {w : World} {b o n : Nat} (h : Wb w b o n) (k : Nat) : Wb (w.drewN k) b o n := h
theorem Rd.drewN {w : World} {b o n X : Nat} (h : Rd w b o n X) (k : Nat) : Rd (w.drewN k) b o n X := h
theorem Wb.setCell {w : World} {b o n : Nat} (h : Wb w b o n) (a : Addr) (v : Value) : Wb (w.setCell a v) b o n := by
  obtain ⟨c, e, hb, hs⟩ := h
  by_cases hk : b = a.block
  · subst hk
    refine ⟨if a.spot.isSome then c else c.setIfInBounds a.off v, e, by simp [World.setCell, Array.getElem?_modify, hb], ?_⟩
    split <;> (try simp) <;> omega
  · exact ⟨c, e, (Below.heap_setCell _ _ _ _ hk).trans hb, hs⟩

theorem run_copy_tail (w : World) (zb zo c1 xb xo c2 n k X : Nat) (hk : k ≤ n) (hc1 : n ≤ c1) (hc2 : n ≤ c2) (hz : Wb w zb zo n) (hx : Rd w xb xo n X) :
    ∃ w', (Builtin.copy_ #[81, 81] 3 #[.slice (if c1 = k then some ⟨zb, zo, none⟩ else some ⟨zb, zo + k, none⟩) (n - k) (c1 - k), .slice (if c2 = k then some ⟨xb, xo, none⟩ else some ⟨xb, xo + k, none⟩) (n - k) (c2 - k)]).run Tryz.prog w = .ok (goInt (n - k : Nat)) w' ∧
      Wr w w' zb (zo + k) (n - k) (X / B ^ k) := by
  by_cases h : k = n
  · subst h
    rw [Nat.sub_self]
    exact ⟨w, run_copy_none (P := Tryz.prog) w 81 81 3 136 _ _ 0 _ 0 _ Tryz.underlying81 info136s rfl, Wr.start (hz.mono (o' := zo + k) (n' := 0) (by omega)) _⟩
  · rw [if_neg (by omega), if_neg (by omega)]
    exact run_copy_words w 81 81 3 Tryz.underlying81 zb (zo + k) (n - k) (c1 - k) xb (xo + k) (n - k) (c2 - k) (n - k) _ (by simp) (hz.mono (by omega)) (hx.drop hk)

set_option maxRecDepth 100000 in
theorem subVW_other (zb zo xb xo n c1 c2 X y : Nat) (w : World) (hn : n ≤ 4611686018427387904) (hn0 : 0 < n) (hX : X < B ^ n) (hy : y < B) (hne : zb ≠ xb) (hc1 : n ≤ c1) (hc2 : n ≤ c2)
    (hz : Wb w zb zo n) (hxw : Wb w xb xo n) (hx : Rd w xb xo n X) :
    Calls Tryz.prog 183 #[.slice (some ⟨zb, zo, none⟩) n c1, .slice (some ⟨xb, xo, none⟩) n c2, .int .u64 y] w fun e w' =>
      e = .returned (.int .u64 (bsub X y 0 n : Nat)) ∧ Wr w w' zb zo n (X + B ^ n - y) := by
  have hc0 : w.cell? ⟨xb, xo, none⟩ = some (.int .u64 (dig X 0 : Nat)) := hx 0 hn0
  have hf0 : w.frozen? ⟨zb, zo, none⟩ = false := hz.frozen zo
  obtain ⟨vz0, hz0⟩ := hz.cell hn0
  rw [Nat.add_zero] at hz0
  have hn1 : ((n : Int) == 0) = false := by simp; omega
  have E0 : Hid (wsub (dig X 0) y 0 = dig (X + B ^ n - y) 0 ∧ bor (dig X 0) y 0 = bsub X y 0 1) := by
    have h1 := bsub_dig X y 0 n 0 (by omega) hX (lt_pow_of_lt hy hn0) hn0
    have h2 := bsub_succ X y 0 0 (by omega)
    rw [bsub_zero X y (by omega), dig_small0 hy] at h1 h2
    rw [Nat.sub_zero, Nat.sub_zero] at h1
    refine Lib.hid ⟨?_, h2.symm⟩
    unfold wsub; rw [Nat.sub_zero, Nat.add_comm, h1]
  have hw1 : Wr w (w.setCell ⟨zb, zo, none⟩ (.int .u64 (wsub (dig X 0) y 0 : Nat))) zb zo 1 (X + B ^ n - y) := by
    have := (Wr.start hz (X + B ^ n - y)).snoc hz hn0 (v := .int .u64 (wsub (dig X 0) y 0 : Nat)) (by rw [E0.out.1]; rfl)
    exact this
  have HX := Lib.hid hX
  have HY := Lib.hid hy
  clear hX hy
  have hne' : (⟨zb, zo, none⟩ : Addr) ≠ ⟨xb, xo, none⟩ := fun h => hne (congrArg Addr.block h)
  have HN := Lib.hid hne'
  clear hne'
  by_cases hb : bor (dig X 0) y 0 = 0
  · have hbz : ((bor (dig X 0) y 0 : Nat) : Int) = 0 := by omega
    have HB := Lib.hid hb
    clear hb
    have hpp := fun k => neq_ptr_other ((w.setCell ⟨zb, zo, none⟩ (.int .u64 (wsub (dig X 0) y 0 : Nat))).drewN k) HN.out (((hz.setCell _ _).drewN k).mono (o' := 0) (n' := 0) (by omega)) (((hxw.setCell _ _).drewN k).mono (o' := 0) (n' := 0) (by omega))
    go_enter Tryz.func183, Tryz.ntmps183
    go_wp2_with fail
    refine (bits_Sub0 _ _ _).mono ?_
    rintro e w' ⟨rfl, rfl⟩
    go_wp2
    go_quiet (fail)
    go_wp2
    obtain ⟨w2, hrun, hw2⟩ := run_copy_tail ((w.setCell ⟨zb, zo, none⟩ (.int .u64 (wsub (dig X 0) y 0 : Nat))).drewN (nq + 1)) zb zo c1 xb xo c2 n 1 X (by omega) hc1 hc2 (hz.setCell _ _) (hw1.rd_out hx (by omega))
    have hle : (1 : Int) ≤ n := by omega
    have hfin : bsub X y 0 n = 0 ∧ Wr w w2 zb zo n (X + B ^ n - y) := by
      have hb1 : bsub X y 0 1 = 0 := by rw [← E0.out.2]; exact HB.out
      refine ⟨sub_rest_all HY.out (by omega) hb1 n (by omega), ?_⟩
      have hj := (hw1.drewN (nq + 1)).join (m := n - 1) (w2 := w2) (hw2.congr (fun i hi => by
        rw [dig_shift, dig_shift, sub_rest HX.out HY.out (by omega) (by omega) (sub_rest_all HY.out (by omega) hb1 _ (by omega))]))
      rw [show 1 + (n - 1) = n by omega] at hj; exact hj
    have HF := Lib.hid hfin
    clear hfin hw2
    go_region
    go_wp2
    all_goals
      go_ret
      exact ⟨by rw [HF.out.1]; rfl, HF.out.2⟩
  · have hbz : ((bor (dig X 0) y 0 : Nat) : Int) = 1 := by
      have : bor (dig X 0) y 0 ≤ 1 := by unfold bor; split <;> omega
      omega
    have HB := Lib.hid hb
    clear hb
    go_enter Tryz.func183, Tryz.ntmps183
    go_wp2_with fail
    refine (bits_Sub0 _ _ _).mono ?_
    rintro e w' ⟨rfl, rfl⟩
    go_wp2
    go_loopw [9] (fun i wr => ∃ k : Nat, 0 < k ∧ k ≤ n ∧ i = .int .i64 k ∧ Wr w wr zb zo k (X + B ^ n - y) ∧ Hid (bsub X y 0 k = 1)) (fun i _ => n - (intOf i).toNat)
    case atStart => exact ⟨1, by omega, by omega, rfl, hw1, by
      rw [← E0.out.2]; exact Lib.hid (by omega)⟩
    case round =>
      obtain ⟨k, hk0, hk, rfl, hwr, hbk⟩ := hrel
      by_cases hlt : k < n
      · have hcx : wr.cell? ⟨xb, xo + k, none⟩ = some (.int .u64 (dig X k : Nat)) := by rw [hwr.cell_out (by dsimp only; omega)]; exact hx k hlt
        have hzf : wr.frozen? ⟨zb, zo + k, none⟩ = false := (hwr.wb hz).frozen _
        obtain ⟨vz, hzc⟩ := (hwr.wb hz).cell hlt
        have hd := bsub_dig X y 0 n k (by omega) HX.out (lt_pow_of_lt HY.out hn0) hlt
        have hs := bsub_succ X y 0 k (by omega)
        rw [hbk.out, dig_small HY.out hk0, Nat.sub_zero, Nat.sub_zero] at hd
        rw [hbk.out, dig_small HY.out hk0] at hs
        by_cases h0 : dig X k = 0
        · have hz0 : ((dig X k : Nat) : Int) = 0 := by omega
          rw [hz0] at hcx
          have HD : Hid (Value.int .u64 18446744073709551615 = wd (X + B ^ n - y) k) := by
            rw [wd, ← hd, h0]; exact Lib.hid rfl
          have HS : Hid (bsub X y 0 (k + 1) = 1) := by rw [hs, h0]; exact Lib.hid rfl
          clear hd hs h0 hz0
          go_wp2
          go_roundw
          case rel => exact ⟨k + 1, by omega, by omega, by go_num, hwr.snoc hz hlt HD.out, HS⟩
          case measure => simp [intOf]; omega
        · have hne0 : (((dig X k : Nat) : Int) != 0) = true := by simp; exact h0
          have hd1 : 1 ≤ dig X k := by omega
          have hlt2 := dig_lt X k
          have HD : Hid (Value.int .u64 ((dig X k : Nat) - 1) = wd (X + B ^ n - y) k) := by
            rw [Nat.add_sub_assoc hd1, Nat.add_mod_left, Nat.mod_eq_of_lt (by omega)] at hd
            rw [wd, ← hd, Int.ofNat_sub hd1]; exact Lib.hid rfl
          have HS : Hid (bsub X y 0 (k + 1) = 0) := by rw [hs]; exact Lib.hid (if_neg (by omega))
          have hub : ((dig X k : Nat) : Int) ≤ 18446744073709551615 := by unfold B at hlt2; omega
          have hwk := hwr.snoc hz hlt HD.out
          have hpp := fun q => neq_ptr_other ((wr.setCell ⟨zb, zo + k, none⟩ (.int .u64 ((dig X k : Nat) - 1))).drewN q) HN.out (((hwr.wb hz).setCell ⟨zb, zo + k, none⟩ (.int .u64 ((dig X k : Nat) - 1))).mono (o' := 0) (n' := 0) (by omega)) (((hwr.wb hxw).setCell ⟨zb, zo + k, none⟩ (.int .u64 ((dig X k : Nat) - 1))).mono (o' := 0) (n' := 0) (by omega))
          clear hd hs h0 hlt2
          go_wp2
          go_quiet (fail)
          go_wp2
          obtain ⟨w2, hrun, hw2⟩ := run_copy_tail ((wr.setCell ⟨zb, zo + k, none⟩ (.int .u64 ((dig X k : Nat) - 1))).drewN (nq + 1)) zb zo c1 xb xo c2 n (k + 1) X (by omega) hc1 hc2 (hwk.wb hz) (hwk.rd_out hx (by omega))
          have hle : (k : Int) + 1 ≤ n := by omega
          have hfin : bsub X y 0 n = 0 ∧ Wr w w2 zb zo n (X + B ^ n - y) := by
            refine ⟨sub_rest_all HY.out (by omega) HS.out n (by omega), ?_⟩
            have hj := (hwk.drewN (nq + 1)).join (m := n - (k + 1)) (w2 := w2) (hw2.congr (fun i hi => by
              rw [dig_shift, dig_shift, sub_rest HX.out HY.out (by omega) (by omega) (sub_rest_all HY.out (by omega) HS.out _ (by omega))]))
            rw [show k + 1 + (n - (k + 1)) = n by omega] at hj; exact hj
          have HF := Lib.hid hfin
          clear hfin hw2
          go_region
          go_wp2
          all_goals
            go_ret
            exact ⟨by rw [HF.out.1]; rfl, HF.out.2⟩
      · obtain rfl : k = n := by omega
        go_wp2
        go_ret
        exact ⟨by rw [hbk.out]; rfl, hwr⟩

theorem cadd_dig' (X y i : Nat) : (dig X i + dig y i + cadd X y 0 i) % B = dig (X + y) i := cadd_dig X y 0 i
/-- X + y, y a word: where no carry comes in the words are those of X -/
theorem add_rest {X y i : Nat} (hy : y < B) (hi : 0 < i) (hb : cadd X y 0 i = 0) : dig (X + y) i = dig X i := by
  have h := cadd_dig' X y i
  rw [hb, dig_small hy hi, Nat.add_zero, Nat.mod_eq_of_lt (dig_lt _ _)] at h
  exact h.symm
theorem add_rest_all {X y i : Nat} (hy : y < B) (hi : 0 < i) (hb : cadd X y 0 i = 0) : ∀ j, i ≤ j → cadd X y 0 j = 0 := by
  intro j hj
  induction j with
  | zero => omega
  | succ j ih =>
    by_cases h : i = j + 1
    · rw [← h]; exact hb
    · have := ih (by omega)
      rw [← cadd_succ X y 0 j, this, dig_small hy (by omega), Nat.add_zero]; exact Nat.div_eq_of_lt (dig_lt _ _)
theorem add_first {X y : Nat} (hy : y < B) : wadd (dig X 0) y = dig (X + y) 0 ∧ wcar (dig X 0) y = cadd X y 0 1 := by
  have h1 := cadd_dig' X y 0
  have h2 := cadd_succ X y 0 0
  rw [cadd_zero, dig_small0 hy] at h1 h2
  exact ⟨h1, h2⟩

set_option maxRecDepth 100000 in
theorem addVW_same (b o n c1 c2 X y : Nat) (w : World) (hn : n ≤ 4611686018427387904) (hn0 : 0 < n) (hy : y < B)
    (hz : Wb w b o n) (hx : Rd w b o n X) :
    Calls Tryz.prog 160 #[.slice (some ⟨b, o, none⟩) n c1, .slice (some ⟨b, o, none⟩) n c2, .int .u64 y] w fun e w' =>
      e = .returned (.int .u64 (cadd X y 0 n : Nat)) ∧ Wr w w' b o n (X + y) := by
  have hc0 : w.cell? ⟨b, o, none⟩ = some (.int .u64 (dig X 0 : Nat)) := hx 0 hn0
  have hf0 : w.frozen? ⟨b, o, none⟩ = false := hz.frozen o
  have hn1 : ((n : Int) == 0) = false := by simp; omega
  have E0 : Hid (wadd (dig X 0) y = dig (X + y) 0 ∧ wcar (dig X 0) y = cadd X y 0 1) := Lib.hid (add_first hy)
  have hw1 : Wr w (w.setCell ⟨b, o, none⟩ (.int .u64 (wadd (dig X 0) y : Nat))) b o 1 (X + y) := by
    have := (Wr.start hz (X + y)).snoc hz hn0 (v := .int .u64 (wadd (dig X 0) y : Nat)) (by rw [E0.out.1]; rfl)
    exact this
  have HY := Lib.hid hy
  clear hy
  have hpp := neq_ptr_same ⟨b, o, none⟩
  by_cases hb : wcar (dig X 0) y = 0
  · have hbz : ((wcar (dig X 0) y : Nat) : Int) = 0 := by omega
    have HB := Lib.hid hb
    clear hb
    go_enter Tryz.func160, Tryz.ntmps160
    go_wp2_with fail
    refine (bits_Addc _ _ _).mono ?_
    rintro e w' ⟨rfl, rfl⟩
    go_wp2
    go_quiet (fail)
    go_wp2
    go_ret
    have hb1 : cadd X y 0 1 = 0 := by rw [← E0.out.2]; exact HB.out
    refine ⟨?_, ?_⟩
    · rw [add_rest_all HY.out (by omega) hb1 n (by omega)]; rfl
    · refine (hw1.extend (by omega) (fun j h1 h2 => ?_)).drewN _
      rw [wd, add_rest HY.out (by omega) (add_rest_all HY.out (by omega) hb1 j h1)]
      exact hx j h2
  · have hbz : ((wcar (dig X 0) y : Nat) : Int) = 1 := by
      have : wcar (dig X 0) y ≤ 1 := by rw [E0.out.2]; exact cadd_le _ _ _ (by omega)
      omega
    have HB := Lib.hid hb
    clear hb
    go_enter Tryz.func160, Tryz.ntmps160
    go_wp2_with fail
    refine (bits_Addc _ _ _).mono ?_
    rintro e w' ⟨rfl, rfl⟩
    go_wp2
    go_loopw [9] (fun i wr => ∃ k : Nat, 0 < k ∧ k ≤ n ∧ i = .int .i64 k ∧ Wr w wr b o k (X + y) ∧ Hid (cadd X y 0 k = 1)) (fun i _ => n - (intOf i).toNat)
    case atStart => exact ⟨1, by omega, by omega, rfl, hw1, by
      rw [← E0.out.2]; exact Lib.hid (by omega)⟩
    case round =>
      obtain ⟨k, hk0, hk, rfl, hwr, hbk⟩ := hrel
      by_cases hlt : k < n
      · have hcx : wr.cell? ⟨b, o + k, none⟩ = some (.int .u64 (dig X k : Nat)) := by rw [hwr.cell_out (by dsimp only; omega)]; exact hx k hlt
        have hzf : wr.frozen? ⟨b, o + k, none⟩ = false := (hwr.wb hz).frozen _
        have hd := cadd_dig' X y k
        have hs := (cadd_succ X y 0 k).symm
        rw [hbk.out, dig_small HY.out hk0, Nat.add_zero] at hd
        rw [hbk.out, dig_small HY.out hk0, Nat.add_zero] at hs
        by_cases h0 : dig X k + 1 = B
        · have hz0 : ((dig X k : Nat) : Int) = 18446744073709551615 := by unfold B at h0; omega
          rw [hz0] at hcx
          have HD : Hid (Value.int .u64 0 = wd (X + y) k) := by
            rw [wd, ← hd, h0, Nat.mod_self]; exact Lib.hid rfl
          have HS : Hid (cadd X y 0 (k + 1) = 1) := by rw [hs, h0]; exact Lib.hid (Nat.div_self B_pos)
          clear hd hs h0 hz0
          go_wp2
          go_roundw
          case rel => exact ⟨k + 1, by omega, by omega, by go_num, hwr.snoc hz hlt HD.out, HS⟩
          case measure => simp [intOf]; omega
        · have hne : (((dig X k : Nat) : Int) != 18446744073709551615) = true := by simp; unfold B at h0; omega
          have hlt2 := dig_lt X k
          have HD : Hid (Value.int .u64 ((dig X k : Nat) + 1) = wd (X + y) k) := by
            rw [Nat.mod_eq_of_lt (by omega)] at hd
            rw [wd, ← hd]; exact Lib.hid rfl
          have HS : Hid (cadd X y 0 (k + 1) = 0) := by rw [hs]; exact Lib.hid (Nat.div_eq_of_lt (by omega))
          have hub : ((dig X k : Nat) : Int) + 1 ≤ 18446744073709551615 := by unfold B at hlt2 h0; omega
          clear hd hs h0 hlt2
          go_wp2
          go_quiet (fail)
          go_wp2
          go_ret
          refine ⟨?_, ?_⟩
          · rw [add_rest_all HY.out (by omega) HS.out n (by omega)]; rfl
          · refine ((hwr.snoc hz hlt HD.out).extend (by omega) (fun j h1 h2 => ?_)).drewN _
            rw [wd, add_rest HY.out (by omega) (add_rest_all HY.out (by omega) HS.out j h1)]
            exact hx j h2
      · obtain rfl : k = n := by omega
        go_wp2
        go_ret
        exact ⟨by rw [hbk.out]; rfl, hwr⟩


set_option maxRecDepth 100000 in
theorem addVW_other (zb zo xb xo n c1 c2 X y : Nat) (w : World) (hn : n ≤ 4611686018427387904) (hn0 : 0 < n) (hy : y < B) (hne : zb ≠ xb) (hc1 : n ≤ c1) (hc2 : n ≤ c2)
    (hz : Wb w zb zo n) (hxw : Wb w xb xo n) (hx : Rd w xb xo n X) :
    Calls Tryz.prog 160 #[.slice (some ⟨zb, zo, none⟩) n c1, .slice (some ⟨xb, xo, none⟩) n c2, .int .u64 y] w fun e w' =>
      e = .returned (.int .u64 (cadd X y 0 n : Nat)) ∧ Wr w w' zb zo n (X + y) := by
  have hc0 : w.cell? ⟨xb, xo, none⟩ = some (.int .u64 (dig X 0 : Nat)) := hx 0 hn0
  have hf0 : w.frozen? ⟨zb, zo, none⟩ = false := hz.frozen zo
  obtain ⟨vz0, hz0⟩ := hz.cell hn0
  rw [Nat.add_zero] at hz0
  have hn1 : ((n : Int) == 0) = false := by simp; omega
  have E0 : Hid (wadd (dig X 0) y = dig (X + y) 0 ∧ wcar (dig X 0) y = cadd X y 0 1) := Lib.hid (add_first hy)
  have hw1 : Wr w (w.setCell ⟨zb, zo, none⟩ (.int .u64 (wadd (dig X 0) y : Nat))) zb zo 1 (X + y) := by
    have := (Wr.start hz (X + y)).snoc hz hn0 (v := .int .u64 (wadd (dig X 0) y : Nat)) (by rw [E0.out.1]; rfl)
    exact this
  have HY := Lib.hid hy
  clear hy
  have hne' : (⟨zb, zo, none⟩ : Addr) ≠ ⟨xb, xo, none⟩ := fun h => hne (congrArg Addr.block h)
  have HN := Lib.hid hne'
  clear hne'
  by_cases hb : wcar (dig X 0) y = 0
  · have hbz : ((wcar (dig X 0) y : Nat) : Int) = 0 := by omega
    have HB := Lib.hid hb
    clear hb
    have hpp := fun k => neq_ptr_other ((w.setCell ⟨zb, zo, none⟩ (.int .u64 (wadd (dig X 0) y : Nat))).drewN k) HN.out (((hz.setCell _ _).drewN k).mono (o' := 0) (n' := 0) (by omega)) (((hxw.setCell _ _).drewN k).mono (o' := 0) (n' := 0) (by omega))
    go_enter Tryz.func160, Tryz.ntmps160
    go_wp2_with fail
    refine (bits_Addc _ _ _).mono ?_
    rintro e w' ⟨rfl, rfl⟩
    go_wp2
    go_quiet (fail)
    go_wp2
    obtain ⟨w2, hrun, hw2⟩ := run_copy_tail ((w.setCell ⟨zb, zo, none⟩ (.int .u64 (wadd (dig X 0) y : Nat))).drewN (nq + 1)) zb zo c1 xb xo c2 n 1 X (by omega) hc1 hc2 (hz.setCell _ _) (hw1.rd_out hx (by omega))
    have hle : (1 : Int) ≤ n := by omega
    have hfin : cadd X y 0 n = 0 ∧ Wr w w2 zb zo n (X + y) := by
      have hb1 : cadd X y 0 1 = 0 := by rw [← E0.out.2]; exact HB.out
      refine ⟨add_rest_all HY.out (by omega) hb1 n (by omega), ?_⟩
      have hj := (hw1.drewN (nq + 1)).join (m := n - 1) (w2 := w2) (hw2.congr (fun i hi => by
        rw [dig_shift, dig_shift, add_rest HY.out (by omega) (add_rest_all HY.out (by omega) hb1 _ (by omega))]))
      rw [show 1 + (n - 1) = n by omega] at hj; exact hj
    have HF := Lib.hid hfin
    clear hfin hw2
    go_region
    go_wp2
    all_goals
      go_ret
      exact ⟨by rw [HF.out.1]; rfl, HF.out.2⟩
  · have hbz : ((wcar (dig X 0) y : Nat) : Int) = 1 := by
      have : wcar (dig X 0) y ≤ 1 := by rw [E0.out.2]; exact cadd_le _ _ _ (by omega)
      omega
    have HB := Lib.hid hb
    clear hb
    go_enter Tryz.func160, Tryz.ntmps160
    go_wp2_with fail
    refine (bits_Addc _ _ _).mono ?_
    rintro e w' ⟨rfl, rfl⟩
    go_wp2
    go_loopw [9] (fun i wr => ∃ k : Nat, 0 < k ∧ k ≤ n ∧ i = .int .i64 k ∧ Wr w wr zb zo k (X + y) ∧ Hid (cadd X y 0 k = 1)) (fun i _ => n - (intOf i).toNat)
    case atStart => exact ⟨1, by omega, by omega, rfl, hw1, by
      rw [← E0.out.2]; exact Lib.hid (by omega)⟩
    case round =>
      obtain ⟨k, hk0, hk, rfl, hwr, hbk⟩ := hrel
      by_cases hlt : k < n
      · have hcx : wr.cell? ⟨xb, xo + k, none⟩ = some (.int .u64 (dig X k : Nat)) := by rw [hwr.cell_out (by dsimp only; omega)]; exact hx k hlt
        have hzf : wr.frozen? ⟨zb, zo + k, none⟩ = false := (hwr.wb hz).frozen _
        obtain ⟨vz, hzc⟩ := (hwr.wb hz).cell hlt
        have hd := cadd_dig' X y k
        have hs := (cadd_succ X y 0 k).symm
        rw [hbk.out, dig_small HY.out hk0, Nat.add_zero] at hd
        rw [hbk.out, dig_small HY.out hk0, Nat.add_zero] at hs
        by_cases h0 : dig X k + 1 = B
        · have hz0 : ((dig X k : Nat) : Int) = 18446744073709551615 := by unfold B at h0; omega
          rw [hz0] at hcx
          have HD : Hid (Value.int .u64 0 = wd (X + y) k) := by
            rw [wd, ← hd, h0, Nat.mod_self]; exact Lib.hid rfl
          have HS : Hid (cadd X y 0 (k + 1) = 1) := by rw [hs, h0]; exact Lib.hid (Nat.div_self B_pos)
          clear hd hs h0 hz0
          go_wp2
          go_roundw
          case rel => exact ⟨k + 1, by omega, by omega, by go_num, hwr.snoc hz hlt HD.out, HS⟩
          case measure => simp [intOf]; omega
        · have hne0 : (((dig X k : Nat) : Int) != 18446744073709551615) = true := by simp; unfold B at h0; omega
          have hlt2 := dig_lt X k
          have HD : Hid (Value.int .u64 ((dig X k : Nat) + 1) = wd (X + y) k) := by
            rw [Nat.mod_eq_of_lt (by omega)] at hd
            rw [wd, ← hd]; exact Lib.hid rfl
          have HS : Hid (cadd X y 0 (k + 1) = 0) := by rw [hs]; exact Lib.hid (Nat.div_eq_of_lt (by omega))
          have hub : ((dig X k : Nat) : Int) + 1 ≤ 18446744073709551615 := by unfold B at hlt2 h0; omega
          have hwk := hwr.snoc hz hlt HD.out
          have hpp := fun q => neq_ptr_other ((wr.setCell ⟨zb, zo + k, none⟩ (.int .u64 ((dig X k : Nat) + 1))).drewN q) HN.out (((hwr.wb hz).setCell ⟨zb, zo + k, none⟩ (.int .u64 ((dig X k : Nat) + 1))).mono (o' := 0) (n' := 0) (by omega)) (((hwr.wb hxw).setCell ⟨zb, zo + k, none⟩ (.int .u64 ((dig X k : Nat) + 1))).mono (o' := 0) (n' := 0) (by omega))
          clear hd hs h0 hlt2
          go_wp2
          go_quiet (fail)
          go_wp2
          obtain ⟨w2, hrun, hw2⟩ := run_copy_tail ((wr.setCell ⟨zb, zo + k, none⟩ (.int .u64 ((dig X k : Nat) + 1))).drewN (nq + 1)) zb zo c1 xb xo c2 n (k + 1) X (by omega) hc1 hc2 (hwk.wb hz) (hwk.rd_out hx (by omega))
          have hle : (k : Int) + 1 ≤ n := by omega
          have hfin : cadd X y 0 n = 0 ∧ Wr w w2 zb zo n (X + y) := by
            refine ⟨add_rest_all HY.out (by omega) HS.out n (by omega), ?_⟩
            have hj := (hwk.drewN (nq + 1)).join (m := n - (k + 1)) (w2 := w2) (hw2.congr (fun i hi => by
              rw [dig_shift, dig_shift, add_rest HY.out (by omega) (add_rest_all HY.out (by omega) HS.out _ (by omega))]))
            rw [show k + 1 + (n - (k + 1)) = n by omega] at hj; exact hj
          have HF := Lib.hid hfin
          clear hfin hw2 hub hne0
          go_region
          go_wp2
          all_goals
            go_ret
            exact ⟨by rw [HF.out.1]; rfl, HF.out.2⟩
      · obtain rfl : k = n := by omega
        go_wp2
        go_ret
        exact ⟨by rw [hbk.out]; rfl, hwr⟩
end Go.Proofs.YtbnmgopobmiadaaGreatDoor
