/- Contracts of the elementary operations of bigall (arith.go): what is written is told by the words of a number. -/
import Derived.Laws.Externs
import Derived.Laws.Bits64b
import Derived.Test.YtbnmgopobmiadaaGreatDoorA1
import Derived.RegionTactic
import Derived.Shelf.Spec.BitsCarry
import Derived.Test.YtbnmgopobmiadaaGreatDoorA2
import Derived.Test.YtbnmgopobmiadaaGreatDoorSh

set_option linter.unusedSimpArgs false
set_option linter.unusedVariables false


namespace Go.Proofs.YtbnmgopobmiadaaGreatDoor
open Go.RowKit
theorem run_Add64 (x y c : Nat) (hc : c ≤ 1) (w : World) :
    (callFunc 218 #[.int .u64 x, .int .u64 y, .int .u64 c]).run Tryz.prog w =
      .ok (.value (.tuple #[.int .u64 ((x + y + c) % B : Nat), .int .u64 ((x + y + c) / B : Nat)])) w := by
  unfold B
  rw [run_callFunc_extern Tryz.func218 (by kernel_rfl) (by kernel_rfl) (by kernel_rfl) (e := add64Entry) (by kernel_rfl), run_add64 x y c (by omega) (by omega) (by omega) (by omega)]
  simp only [Result.andThen]
  congr 5 <;> omega
set_option maxRecDepth 100000 in
theorem bits_Add (x y c : Nat) (w : World) (hc : c ≤ 1) :
    Calls Tryz.prog 193 #[.int .u64 x, .int .u64 y, .int .u64 c] w fun e w' => e = .returned (.tuple #[.int .u64 ((x + y + c) % B : Nat), .int .u64 ((x + y + c) / B : Nat)]) ∧ w = w' := by
  have hrun := run_Add64 x y c hc
  go_enter Tryz.func193, Tryz.ntmps193
  go_wp2
  go_ret2
  exact ⟨rfl, rfl⟩

set_option maxRecDepth 100000 in
theorem addVV_g (zb zo xb xo yb yo n cz cx cy X Y : Nat) (w : World) (hn : n ≤ 4611686018427387904)
    (hz : Wb w zb zo n) (hx : Rd w xb xo n X) (hy : Rd w yb yo n Y)
    (hdx : xb ≠ zb ∨ zo ≤ xo ∨ xo + n ≤ zo) (hdy : yb ≠ zb ∨ zo ≤ yo ∨ yo + n ≤ zo) :
    Calls Tryz.prog 192 #[.slice (some ⟨zb, zo, none⟩) n cz, .slice (some ⟨xb, xo, none⟩) n cx, .slice (some ⟨yb, yo, none⟩) n cy] w fun e w' =>
      e = .returned (.int .u64 (cadd X Y 0 n : Nat)) ∧ Wr w w' zb zo n (X + Y) := by
  go_enter Tryz.func192, Tryz.ntmps192
  go_wp2
  go_loopw [6, 25] (fun c i wr => ∃ k : Nat, k ≤ n ∧ i = .int .i64 k ∧ c = .int .u64 (cadd X Y 0 k : Nat) ∧ Wr w wr zb zo k (X + Y)) (fun _ i _ => n - (intOf i).toNat)
  case atStart => exact ⟨0, Nat.zero_le _, rfl, by rw [cadd_zero]; rfl, Wr.start hz _⟩
  case round =>
    obtain ⟨k, hk, rfl, rfl, hwr⟩ := hrel
    by_cases hlt : k < n
    · have hcx : wr.cell? ⟨xb, xo + k, none⟩ = some (wd X k) := by rw [hwr.cell_out (by dsimp only; omega)]; exact hx k hlt
      have hcy : wr.cell? ⟨yb, yo + k, none⟩ = some (wd Y k) := by rw [hwr.cell_out (by dsimp only; omega)]; exact hy k hlt
      have hzf : wr.frozen? ⟨zb, zo + k, none⟩ = false := (hwr.wb hz).frozen _
      obtain ⟨vz, hzc⟩ := (hwr.wb hz).cell hlt
      unfold wd at hcx hcy
      go_wp2
      go_quiet ((go_at_call 193; refine quiet_same (bits_Add _ _ _ _ (cadd_le _ _ _ (by omega)))))
      go_wp2
      go_roundw
      case rel => 
        exact ⟨k + 1, by omega, by go_num, congrArg _ (by rw [← cadd_succ]; push_cast; rfl), (hwr.drewN nq).snoc hz hlt (congrArg _ (by rw [← Nat.add_zero (X + Y), ← cadd_dig]; push_cast; rfl))⟩
      case measure => simp [intOf]; omega
    · obtain rfl : k = n := by omega
      go_wp2
      go_ret
      exact ⟨rfl, hwr⟩

def bor (x y c : Nat) : Nat := if x < y + c then 1 else 0
def wsub (x y c : Nat) : Nat := (x + B - y - c) % B
theorem run_Sub64 (x y c : Nat) (hc : c ≤ 1) (w : World) :
    (callFunc 225 #[.int .u64 x, .int .u64 y, .int .u64 c]).run Tryz.prog w =
      .ok (.value (.tuple #[.int .u64 (wsub x y c : Nat), .int .u64 (bor x y c : Nat)])) w := by
  unfold wsub B
  rw [run_callFunc_extern Tryz.func225 (by kernel_rfl) (by kernel_rfl) (by kernel_rfl) (e := sub64Entry) (by kernel_rfl), run_sub64 x y c hc]
  rfl
set_option maxRecDepth 100000 in
theorem bits_Sub (x y c : Nat) (w : World) (hc : c ≤ 1) :
    Calls Tryz.prog 209 #[.int .u64 x, .int .u64 y, .int .u64 c] w fun e w' => e = .returned (.tuple #[.int .u64 (wsub x y c : Nat), .int .u64 (bor x y c : Nat)]) ∧ w = w' := by
  have hrun := run_Sub64 x y c hc
  clear hc
  go_enter Tryz.func209, Tryz.ntmps209
  go_wp2
  go_ret2
  exact ⟨rfl, rfl⟩
theorem bits_Add0 (x y : Nat) (w : World) :
    Calls Tryz.prog 193 #[.int .u64 x, .int .u64 y, .int .u64 0] w fun e w' => e = .returned (.tuple #[.int .u64 ((x + y) % B : Nat), .int .u64 ((x + y) / B : Nat)]) ∧ w = w' :=
  bits_Add x y 0 w (by omega)
theorem bits_Sub0 (x y : Nat) (w : World) :
    Calls Tryz.prog 209 #[.int .u64 x, .int .u64 y, .int .u64 0] w fun e w' => e = .returned (.tuple #[.int .u64 (wsub x y 0 : Nat), .int .u64 (bor x y 0 : Nat)]) ∧ w = w' :=
  bits_Sub x y 0 w (by omega)

theorem bits_Mul (x y : Nat) (w : World) (hx : x < B) (hy : y < B) :
    Calls Tryz.prog 189 #[.int .u64 x, .int .u64 y] w fun e w' => e = .returned (.tuple #[.int .u64 (x * y / B : Nat), .int .u64 (x * y % B : Nat)]) ∧ w = w' := by
  unfold B at *
  exact (Tryz.bits_Mul x y hx hy w).mono fun e w' h => ⟨h.1, h.2.symm⟩

set_option maxRecDepth 100000 in
theorem mulWW (x y : Nat) (w : World) (hx : x < B) (hy : y < B) :
    Calls Tryz.prog 150 #[.int .u64 x, .int .u64 y] w fun e w' => e = .returned (.tuple #[.int .u64 (x * y / B : Nat), .int .u64 (x * y % B : Nat)]) ∧ w = w' := by
  go_enter Tryz.func150, Tryz.ntmps150
  go_wp2_with fail
  refine (bits_Mul _ _ _ hx hy).mono ?_
  rintro e w' ⟨rfl, rfl⟩
  go_wp2
  go_ret2
  exact ⟨rfl, rfl⟩

theorem mul_add_split (x y c : Nat) (hx : x < B) (hy : y < B) (hc : c < B) :
    x * y / B + (x * y % B + c) / B = (x * y + c) / B ∧ (x * y % B + c) % B = (x * y + c) % B ∧ (x * y + c) / B < B := by
  have h1 := Nat.mod_add_div (x * y) B
  refine ⟨?_, ?_, ?_⟩
  · conv => rhs; rw [← h1]
    rw [Nat.add_right_comm, Nat.add_mul_div_left _ _ B_pos]; omega
  · simp [Nat.add_mod]
  · rw [Nat.div_lt_iff_lt_mul B_pos]
    have : x * y ≤ (B - 1) * (B - 1) := Nat.mul_le_mul (by omega) (by omega)
    have e : (B - 1) * (B - 1) + B ≤ B * B := by unfold B; omega
    omega

set_option maxRecDepth 100000 in
theorem mulAddWWW_g (x y c : Nat) (w : World) (hx : x < B) (hy : y < B) (hc : c < B) :
    Calls Tryz.prog 198 #[.int .u64 x, .int .u64 y, .int .u64 c] w fun e w' => e = .returned (.tuple #[.int .u64 ((x * y + c) / B : Nat), .int .u64 ((x * y + c) % B : Nat)]) ∧ w = w' := by
  obtain ⟨k1, k2, k3⟩ := mul_add_split x y c hx hy hc
  go_enter Tryz.func198, Tryz.ntmps198
  go_wp2_with fail
  refine (bits_Mul _ _ _ hx hy).mono ?_
  rintro e w' ⟨rfl, rfl⟩
  generalize x * y / B = h at *
  generalize x * y % B = l at *
  go_wp2_with fail
  refine (bits_Add0 _ _ _).mono ?_
  rintro e w' ⟨rfl, rfl⟩
  generalize (l + c) / B = q at *
  generalize (l + c) % B = r at *
  have hb : (h : Int) + q ≤ 18446744073709551615 := by rw [← k1] at k3; unfold B at k3; omega
  have K1 := Lib.hid k1
  have K2 := Lib.hid k2
  clear hx hy hc k1 k2 k3
  go_wp2
  go_ret2
  rw [← K1.out, ← K2.out]
  exact ⟨rfl, rfl⟩

set_option maxRecDepth 100000 in
theorem subVV_g (zb zo xb xo yb yo n cz cx cy X Y : Nat) (w : World) (hn : n ≤ 4611686018427387904) (hX : X < B ^ n) (hY : Y < B ^ n)
    (hz : Wb w zb zo n) (hx : Rd w xb xo n X) (hy : Rd w yb yo n Y)
    (hdx : xb ≠ zb ∨ zo ≤ xo ∨ xo + n ≤ zo) (hdy : yb ≠ zb ∨ zo ≤ yo ∨ yo + n ≤ zo) :
    Calls Tryz.prog 208 #[.slice (some ⟨zb, zo, none⟩) n cz, .slice (some ⟨xb, xo, none⟩) n cx, .slice (some ⟨yb, yo, none⟩) n cy] w fun e w' =>
      e = .returned (.int .u64 (bsub X Y 0 n : Nat)) ∧ Wr w w' zb zo n (X + B ^ n - Y) := by
  have HX := Lib.hid hX
  have HY := Lib.hid hY
  clear hX hY
  go_enter Tryz.func208, Tryz.ntmps208
  go_wp2
  go_loopw [6, 25] (fun c i wr => ∃ k : Nat, k ≤ n ∧ i = .int .i64 k ∧ c = .int .u64 (bsub X Y 0 k : Nat) ∧ Wr w wr zb zo k (X + B ^ n - Y)) (fun _ i _ => n - (intOf i).toNat)
  case atStart => exact ⟨0, Nat.zero_le _, rfl, by rw [bsub_zero _ _ (by omega)]; rfl, Wr.start hz _⟩
  case round =>
    obtain ⟨k, hk, rfl, rfl, hwr⟩ := hrel
    by_cases hlt : k < n
    · have hcx : wr.cell? ⟨xb, xo + k, none⟩ = some (wd X k) := by rw [hwr.cell_out (by dsimp only; omega)]; exact hx k hlt
      have hcy : wr.cell? ⟨yb, yo + k, none⟩ = some (wd Y k) := by rw [hwr.cell_out (by dsimp only; omega)]; exact hy k hlt
      have hzf : wr.frozen? ⟨zb, zo + k, none⟩ = false := (hwr.wb hz).frozen _
      obtain ⟨vz, hzc⟩ := (hwr.wb hz).cell hlt
      unfold wd at hcx hcy
      go_wp2
      go_quiet ((go_at_call 209; refine quiet_same (bits_Sub _ _ _ _ (bsub_le _ _ _ _))))
      have E1 : Hid (wsub (dig X k) (dig Y k) (bsub X Y 0 k) = dig (X + B ^ n - Y) k) := by
        have := bsub_dig X Y 0 n k (by omega) HX.out HY.out hlt
        rw [Nat.sub_zero] at this; unfold wsub; rw [Nat.add_comm (dig X k)]; exact Lib.hid this
      have E2 : Hid (bor (dig X k) (dig Y k) (bsub X Y 0 k) = bsub X Y 0 (k + 1)) := by
        rw [bsub_succ X Y 0 k (by omega)]; exact Lib.hid rfl
      go_wp2
      go_roundw
      case rel =>
        exact ⟨k + 1, by omega, by go_num, by rw [E2.out], (hwr.drewN nq).snoc hz hlt (by rw [E1.out]; rfl)⟩
      case measure => simp [intOf]; omega
    · obtain rfl : k = n := by omega
      go_wp2
      go_ret
      exact ⟨rfl, hwr⟩

/-- high and low word of x * y + c -/
def mhi (x y c : Nat) : Nat := (x * y + c) / B
def mlo (x y c : Nat) : Nat := (x * y + c) % B
theorem mulAddWWW (x y c : Nat) (w : World) (hx : x < B) (hy : y < B) (hc : c < B) :
    Calls Tryz.prog 198 #[.int .u64 x, .int .u64 y, .int .u64 c] w fun e w' => e = .returned (.tuple #[.int .u64 (mhi x y c : Nat), .int .u64 (mlo x y c : Nat)]) ∧ w = w' :=
  mulAddWWW_g x y c w hx hy hc

set_option maxRecDepth 100000 in
theorem mulAddVWW_g (zb zo xb xo n cz cx X y r : Nat) (w : World) (hn : n ≤ 4611686018427387904) (hy : y < B) (hr : r < B)
    (hz : Wb w zb zo n) (hx : Rd w xb xo n X)
    (hdx : xb ≠ zb ∨ zo ≤ xo ∨ xo + n ≤ zo) :
    Calls Tryz.prog 170 #[.slice (some ⟨zb, zo, none⟩) n cz, .slice (some ⟨xb, xo, none⟩) n cx, .int .u64 y, .int .u64 r] w fun e w' =>
      e = .returned (.int .u64 (cmul X y r n : Nat)) ∧ Wr w w' zb zo n (X * y + r) := by
  have HY := Lib.hid hy
  have HR := Lib.hid hr
  clear hy hr
  go_enter Tryz.func170, Tryz.ntmps170
  go_wp2
  go_loopw [8, 19] (fun c i wr => ∃ k : Nat, k ≤ n ∧ i = .int .i64 k ∧ c = .int .u64 (cmul X y r k : Nat) ∧ Wr w wr zb zo k (X * y + r)) (fun _ i _ => n - (intOf i).toNat)
  case atStart => exact ⟨0, Nat.zero_le _, rfl, by rw [cmul_zero], Wr.start hz _⟩
  case round =>
    obtain ⟨k, hk, rfl, rfl, hwr⟩ := hrel
    by_cases hlt : k < n
    · have hcx : wr.cell? ⟨xb, xo + k, none⟩ = some (wd X k) := by rw [hwr.cell_out (by dsimp only; omega)]; exact hx k hlt
      have hzf : wr.frozen? ⟨zb, zo + k, none⟩ = false := (hwr.wb hz).frozen _
      obtain ⟨vz, hzc⟩ := (hwr.wb hz).cell hlt
      unfold wd at hcx
      have E1 : Hid (mlo (dig X k) y (cmul X y r k) = dig (X * y + r) k) := Lib.hid (cmul_dig X y r k)
      have E2 : Hid (mhi (dig X k) y (cmul X y r k) = cmul X y r (k + 1)) := Lib.hid (cmul_succ X y r k)
      go_wp2_with fail
      refine (mulAddWWW _ _ _ _ (dig_lt _ _) HY.out (cmul_lt _ _ HY.out HR.out)).mono ?_
      rintro e w' ⟨rfl, rfl⟩
      go_wp2
      go_roundw
      case rel =>
        exact ⟨k + 1, by omega, by go_num, by rw [E2.out], hwr.snoc hz hlt (by rw [E1.out]; rfl)⟩
      case measure => simp [intOf]; omega
    · obtain rfl : k = n := by omega
      go_wp2
      go_ret
      exact ⟨rfl, hwr⟩

/-- one step of z = x + y * m + c: the words of bigall's loop -/
theorem cam_step (x y m c : Nat) (hx : x < B) (hy : y < B) (hm : m < B) (hc : c < B) :
    (mlo y m x + c) % B = (x + y * m + c) % B ∧ (mlo y m x + c) / B + mhi y m x = (x + y * m + c) / B ∧ (x + y * m + c) / B < B := by
  unfold mlo mhi
  have h1 := Nat.mod_add_div (y * m + x) B
  refine ⟨?_, ?_, ?_⟩
  · rw [Nat.add_comm x (y * m)]; simp [Nat.add_mod]
  · conv => rhs; rw [Nat.add_comm x (y * m), ← h1]
    rw [Nat.add_right_comm, Nat.add_mul_div_left _ _ B_pos]
  · rw [Nat.div_lt_iff_lt_mul B_pos]
    have : y * m ≤ (B - 1) * (B - 1) := Nat.mul_le_mul (by omega) (by omega)
    have e : (B - 1) * (B - 1) + B + B = B * B + 1 := by unfold B; omega
    omega

def wadd (x y : Nat) : Nat := (x + y) % B
def wcar (x y : Nat) : Nat := (x + y) / B
theorem bits_Addc (x y : Nat) (w : World) :
    Calls Tryz.prog 193 #[.int .u64 x, .int .u64 y, .int .u64 0] w fun e w' => e = .returned (.tuple #[.int .u64 (wadd x y : Nat), .int .u64 (wcar x y : Nat)]) ∧ w = w' :=
  bits_Add0 x y w

set_option maxRecDepth 100000 in
theorem addMulVVWW_g (zb zo xb xo yb yo n cz cx cy X Y m a : Nat) (w : World) (hn : n ≤ 4611686018427387904) (hm : m < B) (ha : a < B)
    (hz : Wb w zb zo n) (hx : Rd w xb xo n X) (hy : Rd w yb yo n Y)
    (hdx : xb ≠ zb ∨ zo ≤ xo ∨ xo + n ≤ zo) (hdy : yb ≠ zb ∨ zo ≤ yo ∨ yo + n ≤ zo) :
    Calls Tryz.prog 190 #[.slice (some ⟨zb, zo, none⟩) n cz, .slice (some ⟨xb, xo, none⟩) n cx, .slice (some ⟨yb, yo, none⟩) n cy, .int .u64 m, .int .u64 a] w fun e w' =>
      e = .returned (.int .u64 (cam X Y m a n : Nat)) ∧ Wr w w' zb zo n (X + Y * m + a) := by
  have HM := Lib.hid hm
  have HA := Lib.hid ha
  clear hm ha
  go_enter Tryz.func190, Tryz.ntmps190
  go_wp2
  go_loopw [10, 32] (fun c i wr => ∃ k : Nat, k ≤ n ∧ i = .int .i64 k ∧ c = .int .u64 (cam X Y m a k : Nat) ∧ Wr w wr zb zo k (X + Y * m + a)) (fun _ i _ => n - (intOf i).toNat)
  case atStart => exact ⟨0, Nat.zero_le _, rfl, by rw [cam_zero], Wr.start hz _⟩
  case round =>
    obtain ⟨k, hk, rfl, rfl, hwr⟩ := hrel
    by_cases hlt : k < n
    · have hcx : wr.cell? ⟨xb, xo + k, none⟩ = some (wd X k) := by rw [hwr.cell_out (by dsimp only; omega)]; exact hx k hlt
      have hcy : wr.cell? ⟨yb, yo + k, none⟩ = some (wd Y k) := by rw [hwr.cell_out (by dsimp only; omega)]; exact hy k hlt
      have hzf : wr.frozen? ⟨zb, zo + k, none⟩ = false := (hwr.wb hz).frozen _
      obtain ⟨vz, hzc⟩ := (hwr.wb hz).cell hlt
      unfold wd at hcx hcy
      have hcl : cam X Y m a k < B := cam_lt _ _ _ HM.out HA.out
      obtain ⟨k1, k2, k3⟩ := cam_step (dig X k) (dig Y k) m (cam X Y m a k) (dig_lt _ _) (dig_lt _ _) HM.out hcl
      rw [cam_dig] at k1
      rw [cam_succ] at k2 k3
      have E1 : Hid (wadd (mlo (dig Y k) m (dig X k)) (cam X Y m a k) = dig (X + Y * m + a) k) := Lib.hid k1
      have E2 : Hid (wcar (mlo (dig Y k) m (dig X k)) (cam X Y m a k) + mhi (dig Y k) m (dig X k) = cam X Y m a (k + 1)) := Lib.hid k2
      have hb : ((wcar (mlo (dig Y k) m (dig X k)) (cam X Y m a k) : Nat) : Int) + (mhi (dig Y k) m (dig X k) : Nat) ≤ 18446744073709551615 := by
        have := E2.out; unfold B at k3; omega
      clear k1 k2 k3 hcl
      go_wp2
      go_quiet ((go_at_call 198; refine quiet_same (mulAddWWW _ _ _ _ (dig_lt _ _) HM.out (dig_lt _ _))))
      go_wp2_with fail
      refine (bits_Addc _ _ _).mono ?_
      rintro e w' ⟨rfl, rfl⟩
      go_wp2
      go_roundw
      case rel =>
        exact ⟨k + 1, by omega, by go_num, congrArg _ (by rw [← E2.out]; push_cast; rfl), (hwr.drewN nq).snoc hz hlt (by rw [E1.out]; rfl)⟩
      case measure => simp [intOf]; omega
    · obtain rfl : k = n := by omega
      go_wp2
      go_ret
      exact ⟨rfl, hwr⟩

theorem and63 (s : Nat) (hs : s < 64) : bits .and .u64 (s : Int) 63 = (s : Int) := by
  have := bits_and_u64_nat s 63 (by omega) (by omega)
  rw [show ((63 : Nat) : Int) = 63 from rfl] at this
  rw [this, show (63 : Nat) = 2 ^ 6 - 1 from rfl, Nat.and_two_pow_sub_one_eq_mod, Nat.mod_eq_of_lt (by omega)]

theorem wrap_shl (a s : Nat) : IntKind.u64.wrap ((a : Nat) * 2 ^ s) = (((a * 2 ^ s) % B : Nat) : Int) := by
  have e : ((a : Int) * 2 ^ s) = ((a * 2 ^ s : Nat) : Int) := by push_cast; rfl
  rw [e, IntKind.wrap_u64, Int.natCast_emod, show ((B : Nat) : Int) = 18446744073709551616 from rfl]
theorem or_words (a b : Nat) {s : Nat} (hs0 : 0 < s) (hs : s ≤ 64) (hb : b < B) :
    bits .or .u64 (IntKind.u64.wrap ((a : Nat) * 2 ^ s)) ((b : Nat) / 2 ^ (64 - s)) = (((a * 2 ^ s) % B + b / 2 ^ (64 - s) : Nat) : Int) := by
  have hlt : b / 2 ^ (64 - s) < 2 ^ s := by
    rw [Nat.div_lt_iff_lt_mul (Nat.pow_pos (by omega)), ← B_split hs]; exact hb
  have h2 : 2 ^ s ≤ 2 ^ 64 := Nat.pow_le_pow_right (by omega) hs
  rw [wrap_shl]
  have e2 : ((b : Nat) : Int) / 2 ^ (64 - s) = ((b / 2 ^ (64 - s) : Nat) : Int) := by push_cast; rfl
  have hm : a * 2 ^ s % B < 18446744073709551616 := Nat.mod_lt _ B_pos
  rw [e2, bits_or_u64_nat (a * 2 ^ s % B) (b / 2 ^ (64 - s)) hm (by omega), or_disjoint _ _ hs hlt]

theorem or_words' (a b : Nat) {s : Nat} (hs0 : 0 < s) (hs : s ≤ 64) (hb : b < B) :
    bits .or .u64 ((b : Nat) / 2 ^ (64 - s)) (IntKind.u64.wrap ((a : Nat) * 2 ^ s)) = ((b / 2 ^ (64 - s) + (a * 2 ^ s) % B : Nat) : Int) := by
  have hlt : b / 2 ^ (64 - s) < 2 ^ s := by
    rw [Nat.div_lt_iff_lt_mul (Nat.pow_pos (by omega)), ← B_split hs]; exact hb
  have h2 : 2 ^ s ≤ 2 ^ 64 := Nat.pow_le_pow_right (by omega) hs
  rw [wrap_shl]
  have e2 : ((b : Nat) : Int) / 2 ^ (64 - s) = ((b / 2 ^ (64 - s) : Nat) : Int) := by push_cast; rfl
  have hm : a * 2 ^ s % B < 18446744073709551616 := Nat.mod_lt _ B_pos
  rw [e2, bits_or_u64_nat (b / 2 ^ (64 - s)) (a * 2 ^ s % B) (by omega) hm, Nat.or_comm, or_disjoint _ _ hs hlt, Nat.add_comm]

set_option maxRecDepth 100000 in
theorem lshVU_g (zb zo xb xo n cz cx X s : Nat) (w : World) (hn : n ≤ 4611686018427387904) (hn0 : 0 < n) (hs0 : 0 < s) (hs : s < 64) 
    (hz : Wb w zb zo n) (hx : Rd w xb xo n X)
    (hdx : xb ≠ zb ∨ xo ≤ zo ∨ zo + n ≤ xo) :
    Calls Tryz.prog 161 #[.slice (some ⟨zb, zo, none⟩) n cz, .slice (some ⟨xb, xo, none⟩) n cx, .int .u64 s] w fun e w' =>
      e = .returned (.int .u64 (dig X (n - 1) / 2 ^ (64 - s) : Nat)) ∧ Wr w w' zb zo n (X * 2 ^ s) := by
  have hz' : Wb w zb (zo + (n - 1 + 1)) 0 := hz.mono (by omega)
  have hA : bits .and .u64 (s : Int) 63 = (s : Int) := and63 s hs
  have hB : bits .and .u64 (64 - (s : Int)) 63 = 64 - (s : Int) := by
    have := and63 (64 - s) (by omega)
    rw [Int.ofNat_sub (by omega)] at this; exact this
  have hc1 : w.cell? ⟨xb, xo + (n - 1), none⟩ = some (.int .u64 (dig X (n - 1) : Nat)) := hx (n - 1) (by omega)
  have hs1 : ((s : Int) == 0) = false := by simp; omega
  have hn1 : ((n : Int) == 0) = false := by simp; omega
  go_enter Tryz.func161, Tryz.ntmps161
  go_wp2
  go_loopw [8] (fun i wr => ∃ k : Nat, k < n ∧ i = .int .i64 k ∧ Wr w wr zb (zo + (k + 1)) (n - (k + 1)) (X * 2 ^ s / B ^ (k + 1))) (fun i _ => (intOf i).toNat)
  case atStart => exact ⟨n - 1, by omega, by rw [Int.ofNat_sub (by omega)]; rfl, by rw [show n - (n - 1 + 1) = 0 by omega]; exact Wr.start hz' _⟩
  case round =>
    obtain ⟨k, hk, rfl, hwr⟩ := hrel
    by_cases hlt : 0 < k
    · have hcx : wr.cell? ⟨xb, xo + k, none⟩ = some (wd X k) := by rw [hwr.cell_out (by dsimp only; omega)]; exact hx k hk
      have hcy : wr.cell? ⟨xb, xo + (k - 1), none⟩ = some (wd X (k - 1)) := by rw [hwr.cell_out (by dsimp only; omega)]; exact hx (k - 1) (by omega)
      have hzf : wr.frozen? ⟨zb, zo + k, none⟩ = false := (hwr.wb hz).frozen _
      obtain ⟨vz, hzc⟩ := (hwr.wb hz).cell hk
      unfold wd at hcx hcy
      go_wp2
      have hO : bits .or .u64 (IntKind.u64.wrap ((dig X k : Nat) * 2 ^ s)) ((dig X (k - 1) : Nat) / 2 ^ (64 - s)) = ((dig (X * 2 ^ s) k : Nat) : Int) := by
        obtain ⟨j, rfl⟩ : ∃ j, k = j + 1 := ⟨k - 1, by omega⟩
        rw [Nat.add_sub_cancel, lsh_dig_succ X j (by omega)]
        exact or_words _ _ (by omega) (by omega) (dig_lt _ _)
      have hzc' : ∃ v, wr.drew.cell? ⟨zb, zo + k, none⟩ = some v := ⟨vz, hzc⟩
      go_region
      go_wp2
      go_roundw
      case rel =>
        refine ⟨k - 1, by omega, by rw [Int.ofNat_sub (by omega)]; rfl, ?_⟩
        rw [show k - 1 + 1 = k by omega, show n - k = n - (k + 1) + 1 by omega]
        refine (Wr.cons (h := ?_) (hz.mono (n' := 1) (by omega)) (by omega) ?_).drew
        · rw [Nat.div_div_eq_div_mul, ← Nat.pow_succ]; exact hwr
        · rw [wd, dig_shift, Nat.zero_add]
      case measure => simp [intOf]; omega
    · obtain rfl : k = 0 := by omega
      have hcx : wr.cell? ⟨xb, xo + 0, none⟩ = some (wd X 0) := by rw [hwr.cell_out (by dsimp only; omega)]; exact hx 0 hk
      have hzf : wr.frozen? ⟨zb, zo + 0, none⟩ = false := (hwr.wb hz).frozen _
      obtain ⟨vz, hzc⟩ := (hwr.wb hz).cell hk
      unfold wd at hcx
      rw [Nat.add_zero] at hcx hzc hzf
      have hO : IntKind.u64.wrap ((dig X 0 : Nat) * 2 ^ s) = ((dig (X * 2 ^ s) 0 : Nat) : Int) := by
        rw [lsh_dig_zero]; exact wrap_shl _ _
      go_wp2
      go_ret
      refine ⟨rfl, ?_⟩
      have h1 : Wr w wr zb (zo + 1) (n - 1) (X * 2 ^ s / B) := by simpa using hwr
      have h2 := h1.cons (hz.mono (n' := 1) (by omega)) (by omega) (v := wd (X * 2 ^ s) 0) rfl
      rw [show n - 1 + 1 = n by omega] at h2
      exact h2

set_option maxRecDepth 100000 in
theorem rshVU_g (zb zo xb xo n cz cx X s : Nat) (w : World) (hn : n ≤ 4611686018427387904) (hn0 : 0 < n) (hs0 : 0 < s) (hs : s < 64) (hX : X < B ^ n)
    (hz : Wb w zb zo n) (hx : Rd w xb xo n X)
    (hdx : xb ≠ zb ∨ zo ≤ xo ∨ xo + n ≤ zo) :
    Calls Tryz.prog 171 #[.slice (some ⟨zb, zo, none⟩) n cz, .slice (some ⟨xb, xo, none⟩) n cx, .int .u64 s] w fun e w' =>
      (∃ c, e = .returned (.int .u64 c)) ∧ Wr w w' zb zo n (X / 2 ^ s) := by
  have HX := Lib.hid hX
  clear hX
  have hA : bits .and .u64 (s : Int) 63 = (s : Int) := and63 s hs
  have hB : bits .and .u64 (64 - (s : Int)) 63 = 64 - (s : Int) := by
    have := and63 (64 - s) (by omega)
    rw [Int.ofNat_sub (by omega)] at this; exact this
  have hc1 : w.cell? ⟨xb, xo, none⟩ = some (.int .u64 (dig X 0 : Nat)) := hx 0 (by omega)
  have hs1 : ((s : Int) == 0) = false := by simp; omega
  have hn1 : ((n : Int) == 0) = false := by simp; omega
  go_enter Tryz.func171, Tryz.ntmps171
  go_wp2
  go_loopw [8] (fun i wr => ∃ k : Nat, k < n ∧ i = .int .i64 (k + 1 : Nat) ∧ Wr w wr zb zo k (X / 2 ^ s)) (fun i _ => n - (intOf i).toNat)
  case atStart => exact ⟨0, by omega, rfl, Wr.start hz _⟩
  case round =>
    obtain ⟨k, hk, rfl, hwr⟩ := hrel
    by_cases hlt : k + 1 < n
    · have hcx : wr.cell? ⟨xb, xo + k, none⟩ = some (wd X k) := by rw [hwr.cell_out (by dsimp only; omega)]; exact hx k hk
      have hcy : wr.cell? ⟨xb, xo + (k + 1), none⟩ = some (wd X (k + 1)) := by rw [hwr.cell_out (by dsimp only; omega)]; exact hx (k + 1) hlt
      have hzf : wr.frozen? ⟨zb, zo + k, none⟩ = false := (hwr.wb hz).frozen _
      obtain ⟨vz, hzc⟩ := (hwr.wb hz).cell hk
      unfold wd at hcx hcy
      go_wp2
      have hO : bits .or .u64 ((dig X k : Nat) / 2 ^ s) (IntKind.u64.wrap ((dig X (k + 1) : Nat) * 2 ^ (64 - s))) = ((dig (X / 2 ^ s) k : Nat) : Int) := by
        rw [rsh_dig X k (by omega)]
        have := or_words' (dig X (k + 1)) (dig X k) (s := 64 - s) (by omega) (by omega) (dig_lt _ _)
        rw [show 64 - (64 - s) = s by omega] at this
        exact this
      go_region
      go_wp2
      go_roundw
      case rel =>
        exact ⟨k + 1, by omega, by go_num, (hwr.snoc hz hk rfl).drew⟩
      case measure => simp [intOf]; omega
    · obtain rfl : n = k + 1 := by omega
      have hcx : wr.cell? ⟨xb, xo + k, none⟩ = some (wd X k) := by rw [hwr.cell_out (by dsimp only; omega)]; exact hx k hk
      have hzf : wr.frozen? ⟨zb, zo + k, none⟩ = false := (hwr.wb hz).frozen _
      obtain ⟨vz, hzc⟩ := (hwr.wb hz).cell hk
      unfold wd at hcx
      have hv : Hid (Value.int .u64 ((dig X k : Nat) / 2 ^ s) = wd (X / 2 ^ s) k) := by
        have : dig X (k + 1) = 0 := dig_of_lt HX.out
        have e := rsh_dig X k (s := s) (by omega)
        rw [this, Nat.zero_mul, Nat.zero_mod, Nat.add_zero] at e
        rw [wd, e]; push_cast; exact Lib.hid rfl
      go_wp2
      go_ret
      refine ⟨⟨_, rfl⟩, ?_⟩
      exact hwr.snoc hz hk hv.out
end Go.Proofs.YtbnmgopobmiadaaGreatDoor
