/- Contracts of bitsDiv64, bitsDiv: two words by one. -/
import Derived.Test.YtbnmgopobmiadaaGreatDoorB2
import Derived.Test.YtbnmgopobmiadaaGreatDoorA1
import Derived.Outline
import Derived.Laws.Bits64b

set_option linter.unusedSimpArgs false
set_option linter.unusedVariables false

namespace Go.Proofs.YtbnmgopobmiadaaGreatDoor
open Go.RowKit

theorem wrap_nat {n : Nat} (h : n < B) : IntKind.u64.wrap (n : Int) = n := by
  rw [IntKind.wrap_u64]; unfold B at h; omega
set_option maxRecDepth 100000 in
theorem bitsDiv64_zero (lo y : Nat) (w : World) (hy : 0 < y) (hlo : lo < B) :
    Calls Tryz.prog 223 #[.int .u64 0, .int .u64 lo, .int .u64 y] w fun e w' => e = .returned (.tuple #[.int .u64 (lo / y : Nat), .int .u64 (lo % y : Nat)]) ∧ ∃ n, w' = w.drewN n := by
  have h1 : ((y : Int) == 0) = false := beq_eq_false_iff_ne.2 (by omega)
  have h2 : ¬ (y : Int) ≤ 0 := by omega
  have h3 : (0 : Int) < y := by omega
  have h4 : IntKind.u64.wrap ((lo : Int) / y) = (lo / y : Nat) := by
    have := wrap_nat (Nat.lt_of_le_of_lt (Nat.div_le_self lo y) hlo)
    push_cast at this ⊢; exact this
  clear hlo
  go_enter Tryz.func223, Tryz.ntmps223
  go_wp2
  go_quiet (fail)
  go_wp2
  go_ret2
  exact ⟨by push_cast; rfl, _, rfl⟩

/-- the guess: q1, rhat -/
structure Half (hi un1 yn1 yn0 q1 rhat : Nat) : Prop where
  eq : q1 * yn1 + rhat = hi
  le : (hi * H32 + un1) / (yn1 * H32 + yn0) ≤ q1
  ub : q1 ≤ H32 + 1
  lt : rhat < H32

theorem Half.no {hi un1 yn1 yn0 q r : Nat} (h : Half hi un1 yn1 yn0 q r) (hy1 : 0 < yn1) (hc : q * yn0 ≤ 4294967296 * r + un1) :
    q = (hi * H32 + un1) / (yn1 * H32 + yn0) :=
  half_no (by have : 0 < yn1 * H32 := Nat.mul_pos hy1 (by unfold H32; omega); omega) h.eq h.le hc
theorem Half.yes_lt {hi un1 yn1 yn0 q r : Nat} (h : Half hi un1 yn1 yn0 q r) (h4 : un1 < 4294967296) (hhi : hi < yn1 * 4294967296 + yn0)
    (hc : 4294967296 ≤ q ∨ 4294967296 * r + un1 < q * yn0) : (hi * H32 + un1) / (yn1 * H32 + yn0) < q := half_yes h4 hhi h.eq hc
theorem Half.yes_eq {hi un1 yn1 yn0 q r : Nat} (h : Half hi un1 yn1 yn0 q r) (h0 : 0 < q) : (q - 1) * yn1 + (r + yn1) = hi := by
  have := h.eq
  obtain ⟨k, rfl⟩ : ∃ k, q = k + 1 := ⟨q - 1, by omega⟩
  rw [Nat.add_sub_cancel, ← h.eq, Nat.add_mul]; omega
theorem Half.yes {hi un1 yn1 yn0 q r : Nat} (h : Half hi un1 yn1 yn0 q r) (h4 : un1 < 4294967296) (hhi : hi < yn1 * 4294967296 + yn0)
    (hc : 4294967296 ≤ q ∨ 4294967296 * r + un1 < q * yn0) (hr : r + yn1 < 4294967296) : Half hi un1 yn1 yn0 (q - 1) (r + yn1) := by
  have hl := h.yes_lt h4 hhi hc
  exact ⟨h.yes_eq (Nat.zero_lt_of_lt hl), Nat.le_sub_one_of_lt hl, by have := h.ub; omega, hr⟩
theorem Half.yes_big {hi un1 yn1 yn0 q r : Nat} (h : Half hi un1 yn1 yn0 q r) (h4 : un1 < 4294967296) (hy1 : 0 < yn1) (hy0 : yn0 < 4294967296) (hhi : hi < yn1 * 4294967296 + yn0)
    (hc : 4294967296 ≤ q ∨ 4294967296 * r + un1 < q * yn0) (hr : 4294967296 ≤ r + yn1) : q - 1 = (hi * H32 + un1) / (yn1 * H32 + yn0) := by
  have hl := h.yes_lt h4 hhi hc
  have hu := h.ub
  exact half_big (b := H32) hy0 (by have : 0 < yn1 * H32 := Nat.mul_pos hy1 (by unfold H32; omega); omega) (h.yes_eq (Nat.zero_lt_of_lt hl)) (Nat.le_sub_one_of_lt hl) (by omega) hr

/-- the facts of one round's test -/
theorem Half.words {hi un1 yn1 yn0 q r : Nat} (h : Half hi un1 yn1 yn0 q r) (hy0 : yn0 < 4294967296) (h4 : un1 < 4294967296) (hq : q < 4294967296) :
    IntKind.u64.wrap ((q : Int) * yn0) = (q * yn0 : Nat) ∧ IntKind.u64.wrap (4294967296 * (r : Int)) = 4294967296 * r ∧
    IntKind.u64.wrap (4294967296 * (r : Int) + un1) = 4294967296 * r + un1 := by
  have h1 : q * yn0 < B := by
    have : q * yn0 ≤ 4294967296 * 4294967296 - 1 := by
      have : q * yn0 ≤ 4294967295 * 4294967295 := Nat.mul_le_mul (by omega) (by omega)
      omega
    unfold B; omega
  have h2 := h.lt
  unfold H32 at h2
  refine ⟨?_, ?_, ?_⟩
  · rw [← wrap_nat h1]; push_cast; rfl
  · simp only [IntKind.wrap_u64]; omega
  · simp only [IntKind.wrap_u64]; omega
theorem Half.words2 {hi un1 yn1 yn0 q r : Nat} (h : Half hi un1 yn1 yn0 q r) (hy1 : yn1 < 4294967296) (h0 : 0 < q) :
    IntKind.u64.wrap ((q : Int) - 1) = (q - 1 : Nat) ∧ IntKind.u64.wrap ((r : Int) + yn1) = (r + yn1 : Nat) := by
  have h2 := h.lt
  have h3 := h.ub
  unfold H32 at h2 h3
  refine ⟨?_, ?_⟩
  · simp only [IntKind.wrap_u64]; omega
  · simp only [IntKind.wrap_u64]; omega

theorem half_start {hi un1 yn1 yn0 : Nat} (hu1 : un1 < 4294967296) (hy1 : yn1 < 4294967296) (hy0 : yn0 < 4294967296) (hy2 : 2147483648 ≤ yn1) (hhi : hi < yn1 * 4294967296 + yn0) :
    ∃ q r : Nat, Half hi un1 yn1 yn0 q r ∧ IntKind.u64.wrap ((hi : Int) / yn1) = (q : Int) ∧ IntKind.u64.wrap ((hi : Int) - IntKind.u64.wrap ((q : Int) * yn1)) = (r : Int) := by
  refine ⟨hi / yn1, hi % yn1, ?_, ?_, ?_⟩
  · have := half_first (b := H32) (yn1 := yn1) (yn0 := yn0) (hi := hi) (un1 := un1) (by unfold H32; omega) hy0 hu1 (by unfold H32; omega)
    have hm := Nat.mod_lt hi (y := yn1) (by omega)
    exact ⟨by rw [Nat.mul_comm]; exact Nat.div_add_mod _ _, this.1, this.2, by unfold H32; omega⟩
  · have := wrap_nat (n := hi / yn1) (Nat.lt_of_le_of_lt (Nat.div_le_self _ _) (by unfold B; omega))
    push_cast at this ⊢; exact this
  · have hm := Nat.div_add_mod hi yn1
    rw [Nat.mul_comm] at hm
    have : (((hi / yn1 : Nat) : Int) * yn1) = ((hi / yn1 * yn1 : Nat) : Int) := by push_cast; rfl
    rw [this]
    generalize hi / yn1 * yn1 = P at *
    simp only [IntKind.wrap_u64]; omega

set_option maxRecDepth 100000 in
theorem wrap_rest {N P r y : Nat} {hi un : Nat} (hr : r < y) (hy : y ≤ B) (hN : hi * 4294967296 + un = N) (hP : N = P + r) :
    IntKind.u64.wrap (IntKind.u64.wrap (IntKind.u64.wrap ((hi : Int) * 4294967296) + un) - IntKind.u64.wrap (P : Int)) = r := by
  simp only [IntKind.wrap_u64]
  unfold B at hy
  omega

theorem e88 (Q q0 S : Nat) : (#[Value.int .u64 ((Q : Int) * 4294967296 + q0), .int .u64 (S : Int)] : Array Value) = #[.int .u64 ((Q * H32 + q0 : Nat) : Int), .int .u64 (S : Int)] := by
  rw [show ((Q * H32 + q0 : Nat) : Int) = (Q : Int) * 4294967296 + q0 by unfold H32; omega]

def bitsDiv64Post (hi lo y : Nat) (w : World) (e : Ending) (w' : World) : Prop :=
  e = .returned (.tuple #[.int .u64 ((hi * B + lo) / y : Nat), .int .u64 ((hi * B + lo) % y : Nat)]) ∧ w = w'

set_option maxHeartbeats 2000000 in
set_option maxRecDepth 100000 in
theorem bitsDiv64_parts (hi lo y un1 un0 yn1 yn0 : Nat) (w : World) (hu1 : un1 < 4294967296) (hu0 : un0 < 4294967296) (hy1 : yn1 < 4294967296) (hy0 : yn0 < 4294967296)
    (hy2 : 2147483648 ≤ yn1) (hpos : 0 < hi) (hlo : un1 * 4294967296 + un0 = lo) (hy : yn1 * 4294967296 + yn0 = y) (hhi : hi < y) :
    Calls Tryz.prog 223 #[.int .u64 hi, .int .u64 lo, .int .u64 y] w (bitsDiv64Post hi lo y w) := by
  have hyB : y < 18446744073709551616 := by omega
  have hloB : lo < 18446744073709551616 := by omega
  have h1 : ((y : Int) == 0) = false := beq_eq_false_iff_ne.2 (by omega)
  have h2 : ¬ (y : Int) ≤ hi := by omega
  have h3 : ((hi : Int) == 0) = false := beq_eq_false_iff_ne.2 (by omega)
  have h4 : ¬ (yn1 : Int) = 0 := by omega
  have hbl : Lib.bitLen y = 64 := by
    have := nlzN_spec (x := y) (by omega) hyB
    have h5 := bitLen_le y hyB
    unfold B at this
    have h6 : nlzN y = 0 := by
      refine Nat.eq_zero_of_not_pos fun h => ?_
      have : y * 2 ≤ y * 2 ^ nlzN y := Nat.mul_le_mul_left _ (by
        have : 2 ^ 1 ≤ 2 ^ nlzN y := Nat.pow_le_pow_right (by omega) h
        omega)
      omega
    unfold nlzN at h6; omega
  have HB := Lib.hid hbl
  clear hbl
  have e1 : (y : Int) / 4294967296 = yn1 := by omega
  have e2 : bits .and .u64 (y : Int) 4294967295 = yn0 := by
    have := bits_and_u64_nat y 4294967295 hyB (by omega)
    rw [show ((4294967295 : Nat) : Int) = 4294967295 from rfl] at this
    rw [this, show (4294967295 : Nat) = 2 ^ 32 - 1 from rfl, Nat.and_two_pow_sub_one_eq_mod]; omega
  have e3 : (lo : Int) / 4294967296 = un1 := by omega
  have e4 : bits .and .u64 (lo : Int) 4294967295 = un0 := by
    have := bits_and_u64_nat lo 4294967295 hloB (by omega)
    rw [show ((4294967295 : Nat) : Int) = 4294967295 from rfl] at this
    rw [this, show (4294967295 : Nat) = 2 ^ 32 - 1 from rfl, Nat.and_two_pow_sub_one_eq_mod]; omega
  have e5 : bits .or .u64 (hi : Int) ((lo : Int) / 18446744073709551616) = hi := by
    have := bits_or_u64_nat hi 0 (by omega) (by omega)
    rw [show (lo : Int) / 18446744073709551616 = ((0 : Nat) : Int) by omega, this, Nat.or_zero]
  obtain ⟨q1, r1, hH, e6, e7⟩ := half_start hu1 hy1 hy0 hy2 (hy ▸ hhi)
  have hyN : (y : Int) ≤ 18446744073709551615 := by omega
  have hloN : (lo : Int) ≤ 18446744073709551615 := by omega
  have hhiN : (hi : Int) ≤ 18446744073709551615 := by omega
  go_enter Tryz.func223, Tryz.ntmps223
  go_wp2_with fail
  refine (Tryz.bits_LeadingZeros64 _ _ (by omega) (by omega)).mono ?_
  rintro e w' ⟨rfl, rfl⟩
  rw [show (y : Int).toNat = y from rfl, HB.out]
  go_wp2
  have HYB := Lib.hid hyB
  have hhiy := Lib.hid hhi
  clear h1 h3 e1 e2 e3 e4 e5 e6 e7 hyB hloB hyN hloN hhiN
  go_loop [15, 16] (fun qv rv => ∃ q r : Nat, Half hi un1 yn1 yn0 q r ∧ qv = .int .u64 q ∧ rv = .int .u64 r) (fun qv _ => (intOf qv).toNat)
  case atStart => exact ⟨q1, r1, hH, rfl, rfl⟩
  case round =>
    clear hH
    obtain ⟨q, r, hH, rfl, rfl⟩ := hrel
    generalize hHd : (4294967296 : Int) = H
    have hway : (H ≤ (q : Int) ∨ ¬ H ≤ (q : Int) ∧ 4294967296 * r + un1 < q * yn0) ∧ H ≤ (r + yn1 : Nat) ∨ (H ≤ (q : Int) ∨ ¬ H ≤ (q : Int) ∧ 4294967296 * r + un1 < q * yn0) ∧ ¬ H ≤ (r + yn1 : Nat)
      ∨ ¬ H ≤ (q : Int) ∧ q * yn0 ≤ 4294967296 * r + un1 := by omega
    have hy' : hi < yn1 * 4294967296 + yn0 := hy ▸ hhi
    rcases hway with ⟨hc | ⟨hc, hd⟩, hb⟩ | ⟨hc | ⟨hc, hd⟩, hb⟩ | ⟨hc, hd⟩
    case' inr.inl.inl =>
      have hH2 := Lib.hid (hH.yes hu1 hy' (.inl (by omega)) (by omega))
      obtain ⟨f1, f2⟩ := hH.words2 hy1 (by omega)
      have hm : (q - 1 : Nat) < q := by omega
      clear hu1 hu0 hy1 hy0 hy2 hlo hy hhi hpos hH hHd hy'
      go_wp2
      go_round
      case rel => exact ⟨q - 1, r + yn1, hH2.out, rfl, by go_num⟩
      case measure => simp [intOf]; omega
    case' inr.inl.inr =>
      have h0 := hH.yes_lt hu1 hy' (.inr hd)
      have h00 := Nat.zero_lt_of_lt h0
      have hH2 := Lib.hid (hH.yes hu1 hy' (.inr hd) (by omega))
      obtain ⟨f1, f2⟩ := hH.words2 hy1 h00
      obtain ⟨f3, f4, f5⟩ := hH.words hy0 hu1 (by omega)
      rw [hHd] at f4 f5
      generalize q * yn0 = P at *
      have hd' : H * (r : Int) + un1 < (P : Int) := by rw [← hHd]; omega
      have hm : (q - 1 : Nat) < q := by omega
      clear hu1 hu0 hy1 hy0 hy2 hlo hy hhi hpos hH hHd hy' hd h0 h00
      go_wp2
      go_round
      case rel => exact ⟨q - 1, r + yn1, hH2.out, rfl, by go_num⟩
      case measure => simp [intOf]; omega
    case' inl.inl =>
      have hQ := hH.yes_big hu1 (by omega) hy0 hy' (.inl (by omega)) (by omega)
      obtain ⟨f1, f2⟩ := hH.words2 hy1 (by omega)
      have f3 : True := trivial
      have f4 : True := trivial
      have f5 : True := trivial
      have hd' : True := trivial
      generalize q - 1 = Q at *
    case' inl.inr =>
      have h0 := hH.yes_lt hu1 hy' (.inr hd)
      have h00 := Nat.zero_lt_of_lt h0
      have hQ := hH.yes_big hu1 (by omega) hy0 hy' (.inr hd) (by omega)
      obtain ⟨f1, f2⟩ := hH.words2 hy1 h00
      obtain ⟨f3, f4, f5⟩ := hH.words hy0 hu1 (by omega)
      rw [hHd] at f4 f5
      generalize q * yn0 = P at *
      have hd' : H * (r : Int) + un1 < (P : Int) := by rw [← hHd]; omega
      clear hd h0 h00
      generalize q - 1 = Q at *
    case' inr.inr =>
      have hQ := hH.no (by omega) hd
      obtain ⟨f3, f4, f5⟩ := hH.words hy0 hu1 (by omega)
      rw [hHd] at f4 f5
      generalize q * yn0 = P at *
      have hd' : (P : Int) ≤ H * (r : Int) + un1 := by rw [← hHd]; omega
      clear hd
      have f1 : True := trivial
      have f2 : True := trivial
      obtain ⟨Q, rfl⟩ : ∃ Q, Q = q := ⟨_, rfl⟩
    all_goals
      have hH2 := Lib.hid hQ
      obtain ⟨R, hR⟩ : ∃ R, R = (hi * H32 + un1) % y := ⟨_, rfl⟩
      have hRy : R < y := by rw [hR]; exact Nat.mod_lt _ (by omega)
      have g1 : IntKind.u64.wrap (IntKind.u64.wrap (IntKind.u64.wrap ((hi : Int) * 4294967296) + un1) - IntKind.u64.wrap ((Q : Int) * y)) = R := by
        have h9 := wrap_rest (N := hi * H32 + un1) (P := Q * y) (r := R) (y := y) (hi := hi) (un := un1) hRy (by have := HYB.out; unfold B; omega) (by unfold H32; rfl)
          (by rw [hR, hQ, ← (show yn1 * H32 + yn0 = y from hy), Nat.mul_comm _ (yn1 * H32 + yn0)]; exact (Nat.div_add_mod _ _).symm)
        push_cast at h9; exact h9
      obtain ⟨q2, r2, hH3, g2, g3⟩ := half_start (hi := R) (un1 := un0) hu0 hy1 hy0 hy2 (hy ▸ hRy)
      have hC := Lib.hid (And.intro hu1 (And.intro hu0 (And.intro hy1 (And.intro hy0 (And.intro hy2 (And.intro hlo (And.intro hy (And.intro hR hRy))))))))
      clear hu1 hu0 hy1 hy0 hy2 hlo hy hhi hpos hH hHd hy' hQ hR hRy
      go_wp2
      clear g1 g2 g3 f1 f2 f3 f4 f5 hd' hc
      go_loop [18, 16] (fun qv rv => ∃ q r : Nat, Half R un0 yn1 yn0 q r ∧ qv = .int .u64 q ∧ rv = .int .u64 r) (fun qv _ => (intOf qv).toNat)
      case atStart => exact ⟨q2, r2, hH3, rfl, rfl⟩
      case round =>
        clear hH3
        obtain ⟨q, r, hH, rfl, rfl⟩ := hrel
        obtain ⟨hu1, hu0, hy1, hy0, hy2, hlo, hy, hR, hRy⟩ := hC.out
        generalize hHd : (4294967296 : Int) = H
        have hway : (H ≤ (q : Int) ∨ ¬ H ≤ (q : Int) ∧ 4294967296 * r + un0 < q * yn0) ∧ H ≤ (r + yn1 : Nat) ∨ (H ≤ (q : Int) ∨ ¬ H ≤ (q : Int) ∧ 4294967296 * r + un0 < q * yn0) ∧ ¬ H ≤ (r + yn1 : Nat)
          ∨ ¬ H ≤ (q : Int) ∧ q * yn0 ≤ 4294967296 * r + un0 := by omega
        have hy' : R < yn1 * 4294967296 + yn0 := hy ▸ hRy
        rcases hway with ⟨hc | ⟨hc, hd⟩, hb⟩ | ⟨hc | ⟨hc, hd⟩, hb⟩ | ⟨hc, hd⟩
        case' inr.inl.inl =>
          have hH2 := Lib.hid (hH.yes hu0 hy' (.inl (by omega)) (by omega))
          obtain ⟨f1, f2⟩ := hH.words2 hy1 (by omega)
          have hm : (q - 1 : Nat) < q := by omega
          clear hu1 hu0 hy1 hy0 hy2 hlo hy hR hRy hH hHd hy'
          go_wp2
          go_round
          case rel => exact ⟨q - 1, r + yn1, hH2.out, rfl, by go_num⟩
          case measure => simp [intOf]; omega
        case' inr.inl.inr =>
          have h0 := hH.yes_lt hu0 hy' (.inr hd)
          have h00 := Nat.zero_lt_of_lt h0
          have hH2 := Lib.hid (hH.yes hu0 hy' (.inr hd) (by omega))
          obtain ⟨f1, f2⟩ := hH.words2 hy1 h00
          obtain ⟨f3, f4, f5⟩ := hH.words hy0 hu0 (by omega)
          rw [hHd] at f4 f5
          generalize q * yn0 = P at *
          have hd' : H * (r : Int) + un0 < (P : Int) := by rw [← hHd]; omega
          have hm : (q - 1 : Nat) < q := by omega
          clear hu1 hu0 hy1 hy0 hy2 hlo hy hR hRy hH hHd hy' hd h0 h00
          go_wp2
          go_round
          case rel => exact ⟨q - 1, r + yn1, hH2.out, rfl, by go_num⟩
          case measure => simp [intOf]; omega
        case' inl.inl =>
          have hQ := hH.yes_big hu0 (by omega) hy0 hy' (.inl (by omega)) (by omega)
          obtain ⟨f1, f2⟩ := hH.words2 hy1 (by omega)
          have f3 : True := trivial
          have f4 : True := trivial
          have f5 : True := trivial
          have hd' : True := trivial
          generalize q - 1 = q0 at *
        case' inl.inr =>
          have h0 := hH.yes_lt hu0 hy' (.inr hd)
          have h00 := Nat.zero_lt_of_lt h0
          have hQ := hH.yes_big hu0 (by omega) hy0 hy' (.inr hd) (by omega)
          obtain ⟨f1, f2⟩ := hH.words2 hy1 h00
          obtain ⟨f3, f4, f5⟩ := hH.words hy0 hu0 (by omega)
          rw [hHd] at f4 f5
          generalize q * yn0 = P at *
          have hd' : H * (r : Int) + un0 < (P : Int) := by rw [← hHd]; omega
          clear hd h0 h00
          generalize q - 1 = q0 at *
        case' inr.inr =>
          have hQ := hH.no (by omega) hd
          obtain ⟨f3, f4, f5⟩ := hH.words hy0 hu0 (by omega)
          rw [hHd] at f4 f5
          generalize q * yn0 = P at *
          have hd' : (P : Int) ≤ H * (r : Int) + un0 := by rw [← hHd]; omega
          clear hd
          have f1 : True := trivial
          have f2 : True := trivial
          obtain ⟨q0, rfl⟩ : ∃ q0, q0 = q := ⟨_, rfl⟩
        all_goals
          have hQ1 := hH2.out
          have hQb : Q < 4294967296 := by rw [hQ1]; exact half_lt (b := H32) hu1 (by rw [show yn1 * H32 + yn0 = y from hy]; exact hhiy.out)
          have hqb : q0 < 4294967296 := by rw [hQ]; exact half_lt (b := H32) hu0 hy'
          have g1 : IntKind.u64.wrap (IntKind.u64.wrap (IntKind.u64.wrap ((R : Int) * 4294967296) + un0) - IntKind.u64.wrap ((q0 : Int) * y)) = ((R * H32 + un0) % y : Nat) := by
            have h9 := wrap_rest (N := R * H32 + un0) (P := q0 * y) (r := (R * H32 + un0) % y) (y := y) (hi := R) (un := un0) (Nat.mod_lt _ (by omega)) (by have := HYB.out; unfold B; omega) (by unfold H32; rfl)
              (by rw [hQ, ← (show yn1 * H32 + yn0 = y from hy), Nat.mul_comm _ (yn1 * H32 + yn0)]; exact (Nat.div_add_mod _ _).symm)
            rw [← h9]; push_cast; rfl
          obtain ⟨S, hS⟩ : ∃ S, S = (R * H32 + un0) % y := ⟨_, rfl⟩
          rw [← hS] at g1
          have g2 : IntKind.u64.wrap (IntKind.u64.wrap ((Q : Int) * 4294967296) + q0) = (Q * 4294967296 + q0 : Nat) := by
            simp only [IntKind.wrap_u64]; omega
          have h8 := half_two (y := y) (hi := hi) (lo := lo) (by omega)
          rw [show lo / H32 = un1 by unfold H32; omega, show lo % H32 = un0 by unfold H32; omega, ← hR, ← (show yn1 * H32 + yn0 = y from hy), ← hQ1, ← hQ, (show yn1 * H32 + yn0 = y from hy)] at h8
          rw [← hS] at h8
          have hE := Lib.hid h8
          clear hS hu1 hu0 hy1 hy0 hy2 hlo hy hR hRy hH hHd hy' hQ hQ1 hQb hqb h8
          go_wp2
          clear f1 f2 f3 f4 f5 hd' hc g1 g2
          go_ret2
          exact ⟨congrArg Ending.returned (congrArg Value.tuple (by rw [← hE.out.1, ← hE.out.2]; exact e88 Q q0 S)), rfl⟩
theorem bitsDiv64 (hi lo y : Nat) (w : World) (hhi : hi < y) (hyB : y < B) (hy2 : B ≤ 2 * y) (hlo : lo < B) :
    Calls Tryz.prog 223 #[.int .u64 hi, .int .u64 lo, .int .u64 y] w fun e w' =>
      e = .returned (.tuple #[.int .u64 ((hi * B + lo) / y : Nat), .int .u64 ((hi * B + lo) % y : Nat)]) ∧ ∃ n, w' = w.drewN n := by
  by_cases h0 : hi = 0
  · subst h0
    rw [Nat.zero_mul, Nat.zero_add]
    exact bitsDiv64_zero lo y w (by omega) hlo
  · unfold B at hyB hy2 hlo
    refine (bitsDiv64_parts hi lo y (lo / 4294967296) (lo % 4294967296) (y / 4294967296) (y % 4294967296) w (by omega) (by omega) (by omega) (by omega) (by omega) (by omega) (by omega) (by omega) hhi).mono ?_
    rintro e w' ⟨h1, h2⟩
    exact ⟨h1, 0, h2.symm⟩
end Go.Proofs.YtbnmgopobmiadaaGreatDoor
