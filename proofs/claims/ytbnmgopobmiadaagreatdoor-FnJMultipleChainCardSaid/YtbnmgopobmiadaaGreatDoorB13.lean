/- Contracts of bitsDiv, reciprocalWord, divWW. -/
import Derived.Test.YtbnmgopobmiadaaGreatDoorB12
import Derived.Test.YtbnmgopobmiadaaGreatDoorA1
import Derived.Test.YtbnmgopobmiadaaGreatDoorB8

set_option linter.unusedSimpArgs false
set_option linter.unusedVariables false

namespace Go.Proofs.YtbnmgopobmiadaaGreatDoor
open Go.RowKit

def dvq (hi lo y : Nat) : Nat := (hi * B + lo) / y
def dvr (hi lo y : Nat) : Nat := (hi * B + lo) % y
def Two (q r : Nat) (w : World) (e : Ending) (w' : World) : Prop := e = .returned (.tuple #[.int .u64 (q : Nat), .int .u64 (r : Nat)]) ∧ ∃ n, w' = w.drewN n

set_option maxRecDepth 100000 in
theorem bitsDiv_of {hi lo y : Nat} {w : World} (h : Calls Tryz.prog 223 #[.int .u64 hi, .int .u64 lo, .int .u64 y] w (Two (dvq hi lo y) (dvr hi lo y) w)) :
    Calls Tryz.prog 199 #[.int .u64 hi, .int .u64 lo, .int .u64 y] w (Two (dvq hi lo y) (dvr hi lo y) w) := by
  go_enter Tryz.func199, Tryz.ntmps199
  go_wp2_with fail
  refine h.mono ?_
  rintro e w' ⟨rfl, n, rfl⟩
  go_wp2
  go_ret2
  exact ⟨rfl, n, rfl⟩
theorem bitsDiv (hi lo y : Nat) (w : World) (hhi : hi < y) (hyB : y < B) (hy2 : B ≤ 2 * y) (hlo : lo < B) :
    Calls Tryz.prog 199 #[.int .u64 hi, .int .u64 lo, .int .u64 y] w (Two (dvq hi lo y) (dvr hi lo y) w) :=
  bitsDiv_of (bitsDiv64 hi lo y w hhi hyB hy2 hlo)
theorem bitsDiv_low (lo y : Nat) (w : World) (hy : 0 < y) (hlo : lo < B) :
    Calls Tryz.prog 199 #[.int .u64 0, .int .u64 lo, .int .u64 y] w (Two (lo / y) (lo % y) w) := by
  have := bitsDiv_of (hi := 0) (lo := lo) (y := y) (w := w) (by
    unfold dvq dvr; rw [Nat.zero_mul, Nat.zero_add]; exact bitsDiv64_zero lo y w hy hlo)
  unfold dvq dvr at this; rw [Nat.zero_mul, Nat.zero_add] at this; exact this

theorem xor_ones (D : Nat) (h : D < B) : bits .xor .u64 IntKind.u64.max (D : Int) = ((B - 1 - D : Nat) : Int) := by
  have h2 : (BitVec.ofInt 64 (D : Int)).toNat = D := by
    rw [BitVec.ofInt_natCast, BitVec.toNat_ofNat]; exact Nat.mod_eq_of_lt (by rw [← B_eq]; exact h)
  show IntKind.u64.wrap ((BitVec.allOnes 64 ^^^ BitVec.ofInt 64 (D : Int)).toNat : Int) = _
  rw [BitVec.allOnes_xor, BitVec.toNat_not, h2, ← B_eq]
  exact wrap_nat (by omega)
set_option maxRecDepth 100000 in
theorem reciprocalWord (y : Nat) (w : World) (hy : y ≠ 0) (hyB : y < B) :
    Calls Tryz.prog 200 #[.int .u64 y] w fun e w' => e = .returned (.int .u64 (recip (y * 2 ^ nlzN y) : Nat)) ∧ ∃ n, w' = w.drewN n := by
  obtain ⟨hs, hD, hDB⟩ := nlzN_spec hy hyB
  have hnlz := fun w => nlz y w hyB
  generalize nlzN y = s at *
  have e1 : IntKind.u64.wrap ((y : Int) * 2 ^ s) = (y * 2 ^ s : Nat) := by
    rw [wrap_shl, Nat.mod_eq_of_lt hDB]
  generalize hDd : y * 2 ^ s = D at *
  have HR := Lib.hid (recip_eq hD hDB)
  have HD := Lib.hid (And.intro hD hDB)
  obtain ⟨E, hE⟩ : ∃ E, E = B - 1 - D := ⟨_, rfl⟩
  have e2 := xor_ones D hDB
  rw [← hE] at e2
  have HE := Lib.hid hE
  have hb := fun w => bitsDiv E (B - 1) D w (by have := B_pos; omega) hDB hD (by have := B_pos; omega)
  rw [show ((B - 1 : Nat) : Int) = 18446744073709551615 by unfold B; omega, show dvq E (B - 1) D = recip D by rw [← HR.out, hE]; rfl] at hb
  clear hD hDB hDd hyB hy hE
  go_enter Tryz.func200, Tryz.ntmps200
  go_wp2_with fail
  refine (hnlz _).mono ?_
  rintro e w' ⟨rfl, rfl⟩
  go_wp2_with fail
  refine (hb _).mono ?_
  rintro e w' ⟨rfl, n, rfl⟩
  go_wp2
  go_ret
  exact ⟨rfl, n, rfl⟩

theorem dw_fin {T D q r : Nat} (h : T = q * D + r) (hr : r < D) (hT : T < D * B) : q < B ∧ T / D = q ∧ T % D = r := by
  obtain ⟨h1, h2⟩ := divmod_of h hr
  exact ⟨by rw [← h1]; exact (Nat.div_lt_iff_lt_mul (by omega)).2 (by rw [Nat.mul_comm]; exact hT), h1, h2⟩
theorem dw_out {q r s Qf Rf : Nat} (h1 : q = Qf) (h2 : r / 2 ^ s = Rf) : (#[Value.int .u64 (q : Int), .int .u64 ((r : Int) / 2 ^ s)] : Array Value) = #[.int .u64 (Qf : Int), .int .u64 (Rf : Int)] := by
  subst h1 h2; push_cast; rfl
theorem wrap_up {q : Nat} (h : q + 1 < B) : IntKind.u64.wrap ((q : Int) + 1) = (q + 1 : Nat) := wrap_nat h
theorem wrap_dn {r D : Nat} (h : D ≤ r) (h2 : r < B) : IntKind.u64.wrap ((r : Int) - D) = (r - D : Nat) := by
  rw [← Int.ofNat_sub h]; exact wrap_nat (by omega)
theorem wrap_dn2 {r D : Nat} (h1 : B ≤ r) (h2 : r < B + D) (h3 : D < B) : IntKind.u64.wrap (((r - B : Nat) : Int) - D) = (r - D : Nat) := by
  rw [IntKind.wrap_u64]; unfold B at *; omega
theorem dw_shift {x1 x0 y s : Nat} (hs : s ≤ 64) (h1 : x1 < y) (h0 : x0 < B) (hD : y * 2 ^ s < B) :
    (x1 * 2 ^ s + x0 / 2 ^ (64 - s)) * B + x0 * 2 ^ s % B = (x1 * B + x0) * 2 ^ s ∧ (x1 * 2 ^ s) % B = x1 * 2 ^ s ∧ x1 * 2 ^ s + x0 / 2 ^ (64 - s) < y * 2 ^ s := by
  have hp : 0 < 2 ^ s := Nat.pow_pos (by omega)
  have hA : (x1 * 2 ^ s + x0 / 2 ^ (64 - s)) * B + x0 * 2 ^ s % B = (x1 * B + x0) * 2 ^ s := by
    have e1 : x0 * 2 ^ s / B = x0 / 2 ^ (64 - s) := by
      rw [B_split hs, Nat.mul_comm (2 ^ s), Nat.mul_div_mul_right _ _ hp]
    have e2 := Nat.mod_add_div (x0 * 2 ^ s) B
    rw [e1, Nat.mul_comm B] at e2
    rw [Nat.add_mul, Nat.add_mul, Nat.mul_right_comm x1]; omega
  have hL : x1 * 2 ^ s < y * 2 ^ s := Nat.mul_lt_mul_of_pos_right h1 hp
  refine ⟨hA, Nat.mod_eq_of_lt (by omega), ?_⟩
  refine Nat.lt_of_mul_lt_mul_right (a := B) ?_
  have : (x1 * B + x0) * 2 ^ s < y * B * 2 ^ s := by
    refine Nat.mul_lt_mul_of_pos_right ?_ hp
    have : (x1 + 1) * B ≤ y * B := Nat.mul_le_mul_right _ h1
    rw [Nat.add_mul, Nat.one_mul] at this; omega
  rw [Nat.mul_right_comm y] at this
  omega
theorem dw_final {x1 x0 y s : Nat} {T : Nat} (hT : T = (x1 * B + x0) * 2 ^ s) : T / (y * 2 ^ s) = dvq x1 x0 y ∧ T % (y * 2 ^ s) / 2 ^ s = dvr x1 x0 y := by
  have hp : 0 < 2 ^ s := Nat.pow_pos (by omega)
  subst hT
  exact ⟨Nat.mul_div_mul_right _ _ hp, by rw [Nat.mul_mod_mul_right, Nat.mul_div_cancel _ hp]; rfl⟩

/-- the rest after the guess: r0, r1 in words -/
theorem rest_words {D q X1 X0 r : Nat} (h : X1 * B + X0 = q * D + r) (h0 : X0 < B) (_h1 : X1 < B) (hr : r < B + B) :
    wsub X0 (D * q % B) 0 = r % B ∧ wsub X1 (D * q / B) (bor X0 (D * q % B) 0) = r / B := by
  rw [Nat.mul_comm q D] at h
  generalize D * q = P at *
  unfold wsub bor B at *
  split <;> constructor <;> omega
def Two0 (q r : Nat) (w : World) (e : Ending) (w' : World) : Prop := e = .returned (.tuple #[.int .u64 (q : Nat), .int .u64 (r : Nat)]) ∧ w = w'

set_option maxHeartbeats 1000000 in
set_option maxRecDepth 100000 in
theorem divWW (x1 x0 y m : Nat) (w : World) (hy : y ≠ 0) (hyB : y < B) (h1 : x1 < y) (h0 : x0 < B) (hm : m = recip (y * 2 ^ nlzN y)) :
    Calls Tryz.prog 201 #[.int .u64 x1, .int .u64 x0, .int .u64 y, .int .u64 m] w (Two0 (dvq x1 x0 y) (dvr x1 x0 y) w) := by
  obtain ⟨hs, hD, hDB⟩ := nlzN_spec hy hyB
  have hnlz := fun w => nlz y w hyB
  generalize nlzN y = s at *
  obtain ⟨k1, k2, k3⟩ := dw_shift (by omega) h1 h0 hDB
  have hF := dw_final (y := y) k1
  have hmB := recip_lt hD hDB
  rw [← hm] at hmB
  generalize dvq x1 x0 y = Qf at *
  generalize dvr x1 x0 y = Rf at *
  have g0 : x0 * 2 ^ s % B < B := Nat.mod_lt _ B_pos
  clear k1
  by_cases hs0 : s = 0
  case' pos =>
    have a1 : x1 * 2 ^ s + x0 / 2 ^ (64 - s) = x1 := by
      subst hs0; rw [Nat.sub_zero, ← B_eq, Nat.div_eq_of_lt h0, Nat.pow_zero, Nat.mul_one, Nat.add_zero]
    have a2 : x0 * 2 ^ s % B = x0 := by subst hs0; rw [Nat.pow_zero, Nat.mul_one]; exact Nat.mod_eq_of_lt h0
    have a3 : y * 2 ^ s = y := by subst hs0; rw [Nat.pow_zero, Nat.mul_one]
    rw [a3] at hm hD hDB k3 hF
    rw [a1] at k3 hF
    rw [a2] at hF g0
    have e0 : ((s : Int) != 0) = false := by subst hs0; rfl
    have e1 : True := trivial
    have e2 : True := trivial
    have e3 : True := trivial
    clear a1 a2 a3 k2 h1 h0 hyB hy hs0
    obtain ⟨X1, rfl⟩ : ∃ v, v = x1 := ⟨_, rfl⟩
    obtain ⟨X0, rfl⟩ : ∃ v, v = x0 := ⟨_, rfl⟩
    obtain ⟨D, rfl⟩ : ∃ v, v = y := ⟨_, rfl⟩
  case' neg =>
    have e0 : ((s : Int) != 0) = true := by rw [bne_iff_ne]; omega
    have e1 : IntKind.u64.wrap ((y : Int) * 2 ^ s) = (y * 2 ^ s : Nat) := by
      rw [wrap_shl, Nat.mod_eq_of_lt hDB]
    have e2 := or_words x1 x0 (s := s) (by omega) (by omega) h0
    rw [k2] at e2
    have e3 := wrap_shl x0 s
    clear k2 h1 h0 hyB hy
    generalize x1 * 2 ^ s + x0 / 2 ^ (64 - s) = X1 at *
    generalize x0 * 2 ^ s % B = X0 at *
    generalize y * 2 ^ s = D at *
  all_goals
    obtain ⟨q, hq⟩ : ∃ q, q = (recip D * X1 + X1 * B + X0) / B := ⟨_, rfl⟩
    obtain ⟨q1, q2, q3⟩ := recip_q hD hDB k3 g0 hq
    rw [← hm] at hq
    have hg := guess_word hq q3
    obtain ⟨r, hr⟩ : ∃ r, X1 * B + X0 = q * D + r := ⟨X1 * B + X0 - q * D, by omega⟩
    obtain ⟨w1, w2⟩ := rest_words hr g0 (by omega) (by omega)
    have hM := fun w => bits_Mul m X1 w hmB (by omega)
    obtain ⟨t1, ht1⟩ : ∃ t, t = m * X1 / B := ⟨_, rfl⟩
    obtain ⟨t0, ht0⟩ : ∃ t, t = m * X1 % B := ⟨_, rfl⟩
    rw [← ht1, ← ht0] at hM hg
    have ht0B : t0 < B := by rw [ht0]; exact Nat.mod_lt _ B_pos
    have hA := fun w => bits_Add0 t0 X0 w
    have hc1 : (t0 + X0) / B ≤ 1 := by
      refine Nat.le_of_lt_succ ((Nat.div_lt_iff_lt_mul B_pos).2 (by omega))
    obtain ⟨c, hc⟩ : ∃ c, c = (t0 + X0) / B := ⟨_, rfl⟩
    obtain ⟨c', hc'⟩ : ∃ c, c = (t0 + X0) % B := ⟨_, rfl⟩
    rw [← hc, ← hc'] at hA
    rw [← hc] at hg hc1
    have hA2 := fun w => bits_Add t1 X1 c w hc1
    rw [hg] at hA2
    obtain ⟨c2, hc2⟩ : ∃ k, k = (t1 + X1 + c) / B := ⟨_, rfl⟩
    rw [← hc2] at hA2
    have hM2 := fun w => bits_Mul D q w hDB q3
    obtain ⟨d1, hd1⟩ : ∃ t, t = D * q / B := ⟨_, rfl⟩
    obtain ⟨d0, hd0⟩ : ∃ t, t = D * q % B := ⟨_, rfl⟩
    rw [← hd1, ← hd0] at hM2 w2
    rw [← hd0] at w1
    have hS1 := fun w => bits_Sub0 X0 d0 w
    have hS2 := fun w => bits_Sub X1 d1 (bor X0 d0 0) w (by unfold bor; split <;> omega)
    rw [w1] at hS1
    rw [w2] at hS2
    generalize bor X1 d1 (bor X0 d0 0) = b2 at *
    generalize bor X0 d0 0 = b at *
    obtain ⟨r0, hr0⟩ : ∃ t, t = r % B := ⟨_, rfl⟩
    obtain ⟨r1, hr1⟩ : ∃ t, t = r / B := ⟨_, rfl⟩
    rw [← hr0] at hS1
    rw [← hr1] at hS2
    have HH := Lib.hid (And.intro hD (And.intro hDB (And.intro q1 (And.intro q2 (And.intro q3 (And.intro hr (And.intro hr0 (And.intro hr1 (And.intro k3 g0)))))))))
    clear hD hDB q1 q2 q3 hr hr0 hr1 hg hq ht1 ht0 ht0B hc1 hc hc' hc2 hd1 hd0 w1 w2 k3 hmB hm g0
    go_enter Tryz.func201, Tryz.ntmps201
    go_wp2_with fail
    refine (hnlz _).mono ?_
    rintro e w' ⟨rfl, rfl⟩
    go_wp2_with fail
    refine (hM _).mono ?_
    rintro e w' ⟨rfl, rfl⟩
    go_wp2_with fail
    refine (hA _).mono ?_
    rintro e w' ⟨rfl, rfl⟩
    go_wp2_with fail
    refine (hA2 _).mono ?_
    rintro e w' ⟨rfl, rfl⟩
    go_wp2_with fail
    refine (hM2 _).mono ?_
    rintro e w' ⟨rfl, rfl⟩
    go_wp2_with fail
    refine (hS1 _).mono ?_
    rintro e w' ⟨rfl, rfl⟩
    go_wp2_with fail
    refine (hS2 _).mono ?_
    rintro e w' ⟨rfl, rfl⟩
    clear hnlz hM hA hA2 hM2 hS1 hS2 e0 e1 e2 e3
    have HF := Lib.hid hF
    clear hF
    obtain ⟨hD, hDB, q1, q2, q3, hr, hr0, hr1, k3, g0⟩ := HH.out
    have hrB : r < B + D := by omega
    have hTD : X1 * B + X0 < D * B := by
      have : (X1 + 1) * B ≤ D * B := Nat.mul_le_mul_right _ k3
      rw [Nat.add_mul, Nat.one_mul] at this; omega
    have hsI : (s : Int) < 64 := by omega
    by_cases hb : r < B
    · rw [Nat.mod_eq_of_lt hb] at hr0
      rw [Nat.div_eq_of_lt hb] at hr1
      subst hr0 hr1
      have e1 : (((0 : Nat) : Int) != 0) = false := rfl
      by_cases hd : r0 < D
      · obtain ⟨_, f1, f2⟩ := dw_fin hr hd hTD
        have e2 : ¬ (D : Int) ≤ r0 := by omega
        have HZ := Lib.hid (dw_out (q := q) (r := r0) (s := s) (Qf := Qf) (Rf := Rf) (f1.symm.trans HF.out.1) (by have := HF.out.2; rw [f2] at this; exact this))
        clear hD hDB q1 q2 q3 hr k3 g0 hrB hTD hb f1 f2
        go_wp2
        go_ret2
        exact ⟨congrArg Ending.returned (congrArg Value.tuple HZ.out), rfl⟩
      · obtain ⟨f0, f1, f2⟩ := dw_fin (q := q + 1) (r := r0 - D) (by rw [hr, Nat.add_mul, Nat.one_mul]; omega) (by omega) hTD
        have e2 : (D : Int) ≤ r0 := by omega
        have e3 := wrap_up f0
        have e4 := wrap_dn (r := r0) (D := D) (by omega) hb
        have HZ := Lib.hid (dw_out (q := q + 1) (r := r0 - D) (s := s) (Qf := Qf) (Rf := Rf) (f1.symm.trans HF.out.1) (by have := HF.out.2; rw [f2] at this; exact this))
        generalize q + 1 = q' at *
        generalize r0 - D = r' at *
        clear hD hDB q1 q2 q3 hr k3 g0 hrB hTD hb f1 f2 f0
        go_wp2
        go_ret2
        exact ⟨congrArg Ending.returned (congrArg Value.tuple HZ.out), rfl⟩
    · have hB := B_pos
      have hr0' : r0 = r - B := by rw [hr0, Nat.mod_eq_sub_mod (by omega), Nat.mod_eq_of_lt (by omega)]
      have hr1' : r1 = 1 := by rw [hr1]; exact Nat.div_eq_of_lt_le (by omega) (by omega)
      have e1 : ((r1 : Int) != 0) = true := by rw [hr1']; rfl
      have e3 := wrap_dn2 (r := r) (D := D) (by omega) hrB hDB
      rw [← hr0'] at e3
      clear hr0 hr1 hr0' hr1'
      by_cases hd : r - D < D
      · obtain ⟨f0, f1, f2⟩ := dw_fin (q := q + 1) (r := r - D) (by rw [hr, Nat.add_mul, Nat.one_mul]; omega) hd hTD
        have e2 : ¬ (D : Int) ≤ (r - D : Nat) := by omega
        have e4 := wrap_up f0
        have HZ := Lib.hid (dw_out (q := q + 1) (r := r - D) (s := s) (Qf := Qf) (Rf := Rf) (f1.symm.trans HF.out.1) (by have := HF.out.2; rw [f2] at this; exact this))
        generalize q + 1 = q' at *
        generalize r - D = r' at *
        clear hD hDB q1 q2 q3 hr k3 g0 hrB hTD hb f1 f2 f0
        go_wp2
        go_ret2
        exact ⟨congrArg Ending.returned (congrArg Value.tuple HZ.out), rfl⟩
      · obtain ⟨f0, f1, f2⟩ := dw_fin (q := q + 2) (r := r - D - D) (by rw [hr, Nat.add_mul]; omega) (by omega) hTD
        have e2 : (D : Int) ≤ (r - D : Nat) := by omega
        have e4 := wrap_up (q := q) (by omega)
        have e5 := wrap_up (q := q + 1) (by omega)
        have e6 := wrap_dn (r := r - D) (D := D) (by omega) (by omega)
        rw [show q + 1 + 1 = q + 2 from rfl] at e5
        have HZ := Lib.hid (dw_out (q := q + 2) (r := r - D - D) (s := s) (Qf := Qf) (Rf := Rf) (f1.symm.trans HF.out.1) (by have := HF.out.2; rw [f2] at this; exact this))
        generalize q + 2 = q' at *
        generalize q + 1 = q'' at *
        generalize r - D - D = r'' at *
        generalize r - D = r' at *
        clear hD hDB q1 q2 q3 hr k3 g0 hrB hTD hb f1 f2 f0
        go_wp2
        go_ret2
        exact ⟨congrArg Ending.returned (congrArg Value.tuple HZ.out), rfl⟩
end Go.Proofs.YtbnmgopobmiadaaGreatDoor

/- Contracts of divWVW, nat.divW. -/
namespace Go.Proofs.YtbnmgopobmiadaaGreatDoor
open Go.RowKit

theorem dv_split (X i : Nat) : X / B ^ i = X / B ^ (i + 1) * B + dig X i := by
  have := Nat.mod_add_div (X / B ^ i) B
  rw [Nat.div_div_eq_div_mul, show B ^ i * B = B ^ (i + 1) from (Nat.pow_succ ..).symm] at this
  unfold dig; rw [Nat.mul_comm _ B]; omega
theorem dv_step {X y i : Nat} (hy : 0 < y) : dvq (X / B ^ (i + 1) % y) (dig X i) y = dig (X / y) i ∧ dvr (X / B ^ (i + 1) % y) (dig X i) y = X / B ^ i % y := by
  have hs := dv_split X i
  have hd := dig_lt X i
  have h1 : X / y / B ^ i = X / B ^ i / y := by rw [Nat.div_div_eq_div_mul, Nat.mul_comm, ← Nat.div_div_eq_div_mul]
  generalize X / B ^ (i + 1) = A at *
  unfold dvq dvr
  rw [show dig (X / y) i = X / B ^ i / y % B by unfold dig; rw [h1], hs]
  generalize dig X i = d at *
  have e : A * B + d = (A % y * B + d) + y * (A / y * B) := by
    have := Nat.mod_add_div A y
    conv => lhs; rw [← this]
    rw [Nat.add_mul, Nat.mul_assoc]; omega
  rw [e]
  refine ⟨?_, by rw [Nat.add_mul_mod_self_left]⟩
  rw [Nat.add_mul_div_left _ _ hy, Nat.add_mul_mod_self_right]
  symm
  refine Nat.mod_eq_of_lt ?_
  rw [Nat.div_lt_iff_lt_mul hy]
  have hm := Nat.mod_lt A hy
  have : (A % y + 1) * B ≤ y * B := Nat.mul_le_mul_right _ hm
  rw [Nat.add_mul, Nat.one_mul] at this
  rw [Nat.mul_comm B y]; omega

set_option maxHeartbeats 1000000 in
set_option maxRecDepth 100000 in
theorem divWVW (zb zo xb xo n cz cx X y : Nat) (w : World) (hn : n ≤ 4611686018427387904) (hn0 : 0 < n) (hX : X < B ^ n) (hy : y ≠ 0) (hyB : y < B)
    (hz : Wb w zb zo n) (hx : Rd w xb xo n X) (hdx : xb ≠ zb ∨ xo ≤ zo) :
    Calls Tryz.prog 174 #[.slice (some ⟨zb, zo, none⟩) n cz, .int .u64 0, .slice (some ⟨xb, xo, none⟩) n cx, .int .u64 y] w fun e w' =>
      e = .returned (.int .u64 (X % y : Nat)) ∧ Wr w w' zb zo n (X / y) := by
  by_cases h1 : n = 1
  · subst h1
    have hX' : X < B := by rw [Nat.pow_one] at hX; exact hX
    have hcx : w.cell? ⟨xb, xo, none⟩ = some (.int .u64 (X : Nat)) := by
      have := hx 0 (by omega)
      rw [wd, dig_zero, Nat.mod_eq_of_lt hX', Nat.add_zero] at this; exact this
    have hdv := fun w => bitsDiv_low X y w (by omega) hX'
    have hzc := fun n => ((Wr.start hz 0).drewN n).wb hz
    have HX := Lib.hid hX'
    clear hX hX' hyB hdx
    go_enter Tryz.func174, Tryz.ntmps174
    go_wp2_with fail
    refine (hdv _).mono ?_
    rintro e w' ⟨rfl, nd, rfl⟩
    obtain ⟨vz, hzv⟩ := (hzc nd).cell (i := 0) (by omega)
    have hzf := (hzc nd).frozen (zo + 0)
    rw [Nat.add_zero] at hzv hzf
    go_wp2
    go_ret
    refine ⟨by push_cast; rfl, ?_⟩
    have := (((Wr.start hz (X / y)).drewN nd)).snoc (m := 1) hz (by omega) (v := .int .u64 (X / y : Nat)) (by
      rw [wd, dig_zero, Nat.mod_eq_of_lt (Nat.lt_of_le_of_lt (Nat.div_le_self _ _) HX.out)])
    rw [Nat.add_zero] at this
    exact this
  · have hr := fun w => reciprocalWord y w hy hyB
    have hdw : ∀ k w, k < n → Calls Tryz.prog 201 #[.int .u64 (X / B ^ (k + 1) % y : Nat), .int .u64 (dig X k : Nat), .int .u64 y, .int .u64 (recip (y * 2 ^ nlzN y) : Nat)] w
        (Two0 (dig (X / y) k) (X / B ^ k % y) w) := fun k w hk => by
      have := divWW (X / B ^ (k + 1) % y) (dig X k) y _ w hy hyB (Nat.mod_lt _ (by omega)) (dig_lt _ _) rfl
      rw [(dv_step (by omega)).1, (dv_step (by omega)).2] at this
      exact this
    have hz' : Wb w zb (zo + n) 0 := hz.mono (by omega)
    have h1' : ((n : Int) == 1) = false := beq_eq_false_iff_ne.2 (by omega)
    have HX := Lib.hid hX
    generalize recip (y * 2 ^ nlzN y) = m at *
    clear hX hy hyB
    go_enter Tryz.func174, Tryz.ntmps174
    go_wp2_with fail
    refine (hr _).mono ?_
    rintro e w' ⟨rfl, nd, rfl⟩
    go_wp2
    go_loopw [8, 12] (fun r i wr => ∃ k : Nat, k ≤ n ∧ i = .int .i64 ((k : Int) - 1) ∧ r = .int .u64 (X / B ^ k % y : Nat) ∧ Wr w wr zb (zo + k) (n - k) (X / y / B ^ k)) (fun _ i _ => (intOf i + 1).toNat)
    case atStart =>
      refine ⟨n, Nat.le_refl _, rfl, ?_, ?_⟩
      · rw [Nat.div_eq_of_lt HX.out, Nat.zero_mod]; rfl
      · rw [Nat.sub_self]; exact (Wr.start hz' _).drewN nd
    case round =>
      obtain ⟨k, hk, rfl, rfl, hwr⟩ := hrel
      by_cases hlt : 0 < k
      · obtain ⟨j, rfl⟩ : ∃ j, k = j + 1 := ⟨k - 1, by omega⟩
        rw [show ((j + 1 : Nat) : Int) - 1 = (j : Int) by omega]
        have hj : j < n := by omega
        have hcx : wr.cell? ⟨xb, xo + j, none⟩ = some (wd X j) := by rw [hwr.cell_out (by dsimp only; omega)]; exact hx j hj
        have hzf : wr.frozen? ⟨zb, zo + j, none⟩ = false := (hwr.wb hz).frozen _
        obtain ⟨vz, hzc⟩ := (hwr.wb hz).cell hj
        unfold wd at hcx
        have hdj := hdw j wr hj
        obtain ⟨R, hR⟩ : ∃ R, R = X / B ^ (j + 1) % y := ⟨_, rfl⟩
        obtain ⟨R', hR'⟩ : ∃ R, R = X / B ^ j % y := ⟨_, rfl⟩
        obtain ⟨d, hd⟩ : ∃ R, R = dig X j := ⟨_, rfl⟩
        obtain ⟨q, hq⟩ : ∃ R, R = dig (X / y) j := ⟨_, rfl⟩
        rw [← hR, ← hR', ← hd, ← hq] at hdj
        rw [← hR]
        rw [← hd] at hcx
        have HW := Lib.hid hwr
        have HR := Lib.hid (And.intro hR' hq)
        clear hwr hR hR' hd hq hdw hr
        go_wp2_with fail
        refine hdj.mono ?_
        rintro e w' ⟨rfl, rfl⟩
        go_wp2
        go_roundw
        case rel =>
          obtain ⟨hR', hq⟩ := HR.out
          refine ⟨j, by omega, by rfl, by rw [hR'], ?_⟩
          rw [show n - j = n - (j + 1) + 1 by omega]
          refine (Wr.cons (h := ?_) (hz.mono (n' := 1) (by omega)) (by omega) ?_)
          · rw [Nat.div_div_eq_div_mul, ← Nat.pow_succ, Nat.add_assoc]; exact HW.out
          · rw [hq, wd, dig_shift, Nat.zero_add]
        case measure => simp [intOf]
      · obtain rfl : k = 0 := by omega
        clear hdw hr
        rw [Nat.pow_zero, Nat.div_one, Nat.add_zero, Nat.sub_zero] at hwr
        rw [Nat.pow_zero, Nat.div_one]
        have HW := Lib.hid hwr
        clear hwr
        obtain ⟨R, hR⟩ : ∃ R, R = X % y := ⟨_, rfl⟩
        rw [← hR]
        go_wp2
        go_ret
        exact ⟨congrArg (fun r : Nat => Ending.returned (.int .u64 (r : Int))) hR, HW.out⟩

/-- two slices come back, numbers Q and R, of which the second is word r -/
def GivesW (z : Value) (Q r : Nat) (w : World) (e : Ending) (w' : World) : Prop :=
  ∃ v, e = .returned (.tuple #[v, .int .u64 r]) ∧ Nv w' v Q ∧ Chg (fun k => z.ownBlock = some k) w w' ∧ (∀ k, v.ownBlock = some k → z.ownBlock = some k ∨ w.heap.size ≤ k)

set_option maxRecDepth 100000 in
theorem divW (z x : Value) (X y : Nat) (w : World) (hz : St w z) (hx : Nv w x X) (hX : wlen X ≤ 100000) (hy0 : y ≠ 0) (hy : y < B)
    (h1x : y = 1 → Off (fun k => z.ownBlock = some k) x) :
    Calls Tryz.prog 137 #[z, x, .int .u64 y] w (GivesW z (X / y) (X % y) w) := by
  by_cases h1 : y = 1
  · subst h1
    have hset := set_any z x X w hz hx (by omega) (h1x rfl)
    rw [Nat.div_one, Nat.mod_one]
    obtain ⟨xa, xc, rfl⟩ := hx.shape
    generalize wlen X = m at *
    go_enter Tryz.func137, Tryz.ntmps137
    go_wp2_with fail
    refine hset.mono ?_
    rintro e w1 ⟨v, rfl, hg⟩
    have HG := Lib.hid (gives_of_set hg)
    clear hg
    go_wp2
    go_ret2
    obtain ⟨v', h1, h2⟩ := HG.out
    obtain rfl : v = v' := by injection h1
    exact ⟨_, rfl, h2⟩
  · have h1' : ((y : Int) == 1) = false := beq_eq_false_iff_ne.2 (by omega)
    have h0' : ((y : Int) == 0) = false := beq_eq_false_iff_ne.2 (by omega)
    by_cases h0 : X = 0
    · subst h0
      obtain ⟨za, zn, zc, rfl⟩ := hz.shape
      obtain ⟨xa, xc, rfl⟩ := hx.shape
      rw [wlen_zero, Nat.zero_div, Nat.zero_mod]
      have HZ := Lib.hid hz
      clear hz hx hX h1x h1 hy
      go_enter Tryz.func137, Tryz.ntmps137
      go_wp2
      go_ret2
      obtain ⟨v', e1, h2⟩ := HZ.out.gives_zero w ⟨0, rfl⟩
      obtain rfl : Value.slice za 0 zc = v' := by injection e1
      exact ⟨_, rfl, h2⟩
    · have hp : 0 < wlen X := by have := mt wlen_eq_zero.1 h0; omega
      have hlx := lt_wlen X
      obtain ⟨xb, xc, rfl, x1, x2, x3, x4⟩ := hx.pos h0
      have hmk := make_any z (wlen X) w hz (by omega) (by omega)
      generalize wlen X = m at *
      have h2 : ((m : Int) == 0) = false := beq_eq_false_iff_ne.2 (by omega)
      have HY := Lib.hid hy
      have HL := Lib.hid hlx
      clear hlx h0 hy h1x
      go_enter Tryz.func137, Tryz.ntmps137
      go_wp2_with fail
      refine hmk.mono ?_
      rintro e w1 ⟨b, cap, rfl, k1, k2, k3, k4, k5⟩
      have K5 := Lib.hid k5
      clear hmk k5
      have rx : Rd w1 xb 0 m X := k4.rd x4 x3.lt (fun h => h)
      go_wp2_with fail
      refine (divWVW b 0 xb 0 m cap xc X y w1 (by omega) hp HL.out hy0 HY.out (k3.mono (by omega)) rx (.inr (by omega))).mono ?_
      rintro e w2 ⟨rfl, hw2⟩
      obtain ⟨r, hr⟩ : ∃ r, r = X % y := ⟨_, rfl⟩
      rw [← hr]
      have hQ : X / y < B ^ m := Nat.lt_of_le_of_lt (Nat.div_le_self _ _) HL.out
      generalize X / y = Q at *
      have HQ := Lib.hid hQ
      have HRR := Lib.hid hr
      clear hQ hr
      go_wp2_with fail
      refine (norm_any b 0 m cap Q _ k1 k2 HQ.out hw2.rd).mono ?_
      rintro e w5 ⟨rfl, rfl⟩
      have HG := Lib.hid (gives_row k4 k3 k2 hw2 k1 HQ.out K5.out)
      clear hw2
      go_wp2
      go_ret2
      rw [← HRR.out]
      obtain ⟨v', e1, h2⟩ := HG.out
      injection e1 with e1
      subst e1
      exact ⟨_, rfl, h2⟩
end Go.Proofs.YtbnmgopobmiadaaGreatDoor
