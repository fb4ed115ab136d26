/- Lemmas of the proof of FnJMultipleChain (Ma Mb Md Me Mf Mg Mh Mj Mk Mm). -/
import Derived.Lib.Hide

set_option linter.unusedSimpArgs false
set_option linter.unusedVariables false

namespace Go.Proofs.YtbnmgopobmiadaaGreatDoor

/-- The base of the words. -/
def B : Nat := 18446744073709551616

theorem B_pos : 0 < B := by unfold B; omega
theorem B_eq : B = 2 ^ 64 := by unfold B; rfl
theorem Bpow_pos (n : Nat) : 0 < B ^ n := Nat.pow_pos B_pos

/-- The i-th word of a number, the least first. -/
def dig (X i : Nat) : Nat := X / B ^ i % B

theorem dig_lt (X i : Nat) : dig X i < B := Nat.mod_lt _ B_pos
theorem dig_zero (X : Nat) : dig X 0 = X % B := by simp [dig]
theorem dig_shift (X k i : Nat) : dig (X / B ^ k) i = dig X (i + k) := by
  unfold dig; rw [Nat.div_div_eq_div_mul, ← Nat.pow_add, Nat.add_comm]
theorem mod_succ (X i : Nat) : X % B ^ (i + 1) = X % B ^ i + B ^ i * dig X i := by
  unfold dig; exact Nat.mod_pow_succ
theorem dig_of_lt {X i : Nat} (h : X < B ^ i) : dig X i = 0 := by
  unfold dig; rw [Nat.div_eq_of_lt h]; simp
theorem div_lt_of_lt_pow {X i : Nat} (h : X < B ^ (i + 1)) : X / B ^ i < B := by
  rw [Nat.div_lt_iff_lt_mul (Bpow_pos i), Nat.mul_comm, ← Nat.pow_succ]; exact h
theorem dig_top {X i : Nat} (h : X < B ^ (i + 1)) : dig X i = X / B ^ i := by
  unfold dig; exact Nat.mod_eq_of_lt (div_lt_of_lt_pow h)
theorem dig_mod {X n i : Nat} (h : i < n) : dig (X % B ^ n) i = dig X i := by
  unfold dig
  obtain ⟨k, rfl⟩ : ∃ k, n = i + 1 + k := ⟨n - (i + 1), by omega⟩
  have e : B ^ (i + 1 + k) = B ^ i * (B * B ^ k) := by rw [Nat.pow_add, Nat.pow_succ, Nat.mul_assoc]
  rw [e, Nat.mod_mul_right_div_self]
  exact Nat.mod_mul_right_mod _ _ _

theorem add3_mod (a b c n : Nat) : (a % n + b % n + c) % n = (a + b + c) % n := by
  simp [Nat.add_mod]

/-- the carry into place i of X + Y + c0 -/
def cadd (X Y c0 i : Nat) : Nat := (X % B ^ i + Y % B ^ i + c0) / B ^ i

theorem cadd_zero (X Y c0 : Nat) : cadd X Y c0 0 = c0 := by simp [cadd, Nat.mod_one]
theorem cadd_dig (X Y c0 i : Nat) : (dig X i + dig Y i + cadd X Y c0 i) % B = dig (X + Y + c0) i := by
  have hp := Bpow_pos i
  have e : (X + Y + c0) / B ^ i = X / B ^ i + Y / B ^ i + cadd X Y c0 i := by
    have h1 : X + Y + c0 = (X % B ^ i + Y % B ^ i + c0) + B ^ i * (X / B ^ i + Y / B ^ i) := by
      have := Nat.mod_add_div X (B ^ i); have := Nat.mod_add_div Y (B ^ i); rw [Nat.mul_add]; omega
    conv => lhs; rw [h1]
    rw [Nat.add_mul_div_left _ _ hp]; unfold cadd; omega
  unfold dig; rw [e]
  exact add3_mod _ _ _ _
theorem cadd_succ (X Y c0 i : Nat) : (dig X i + dig Y i + cadd X Y c0 i) / B = cadd X Y c0 (i + 1) := by
  have hp := Bpow_pos i
  unfold cadd
  rw [mod_succ X, mod_succ Y]
  have h1 : X % B ^ i + B ^ i * dig X i + (Y % B ^ i + B ^ i * dig Y i) + c0 = (X % B ^ i + Y % B ^ i + c0) + B ^ i * (dig X i + dig Y i) := by
    rw [Nat.mul_add]; omega
  rw [h1, Nat.pow_succ, ← Nat.div_div_eq_div_mul, Nat.add_mul_div_left _ _ hp]
  congr 1; omega
theorem cadd_le (X Y i : Nat) {c0 : Nat} (h : c0 ≤ 1) : cadd X Y c0 i ≤ 1 := by
  have hx := Nat.mod_lt X (Bpow_pos i); have hy := Nat.mod_lt Y (Bpow_pos i)
  unfold cadd
  have : (X % B ^ i + Y % B ^ i + c0) / B ^ i < 2 := by
    rw [Nat.div_lt_iff_lt_mul (Bpow_pos i)]; omega
  omega
theorem cadd_top {X Y c0 n : Nat} (hX : X < B ^ n) (hY : Y < B ^ n) : cadd X Y c0 n = (X + Y + c0) / B ^ n := by
  unfold cadd; rw [Nat.mod_eq_of_lt hX, Nat.mod_eq_of_lt hY]

/-- the borrow into place i of X - Y - c0 -/
def bsub (X Y c0 i : Nat) : Nat := if X % B ^ i < Y % B ^ i + c0 then 1 else 0

theorem bsub_le (X Y c0 i : Nat) : bsub X Y c0 i ≤ 1 := by unfold bsub; split <;> omega
theorem bsub_zero (X Y : Nat) {c0 : Nat} (h : c0 ≤ 1) : bsub X Y c0 0 = c0 := by
  unfold bsub; simp only [Nat.pow_zero, Nat.mod_one]; split <;> omega
theorem bsub_top {X Y c0 n : Nat} (hX : X < B ^ n) (hY : Y < B ^ n) : bsub X Y c0 n = if X < Y + c0 then 1 else 0 := by
  unfold bsub; rw [Nat.mod_eq_of_lt hX, Nat.mod_eq_of_lt hY]
/-- one step of a subtraction: dx - dy - c, with its borrow, over the pieces below -/
theorem bsub_succ (X Y c0 i : Nat) (hc : c0 ≤ 1) : bsub X Y c0 (i + 1) = if dig X i < dig Y i + bsub X Y c0 i then 1 else 0 := by
  have hp := Bpow_pos i
  have hx := Nat.mod_lt X hp; have hy := Nat.mod_lt Y hp
  unfold bsub
  rw [mod_succ X, mod_succ Y]
  generalize X % B ^ i = x at *; generalize Y % B ^ i = y at *; generalize dig X i = dx; generalize dig Y i = dy
  generalize B ^ i = p at *
  rcases Nat.lt_trichotomy dx dy with h | h | h
  · have : p * dx + p ≤ p * dy := by rw [← Nat.mul_succ]; exact Nat.mul_le_mul_left _ h
    split <;> split <;> split <;> omega
  · subst h; split <;> split <;> split <;> omega
  · have : p * dy + p ≤ p * dx := by rw [← Nat.mul_succ]; exact Nat.mul_le_mul_left _ h
    split <;> split <;> split <;> omega
/-- the words of the difference: of X + B^n - Y - c0 -/
theorem bsub_dig (X Y c0 n i : Nat) (hc : c0 ≤ 1) (hX : X < B ^ n) (hY : Y < B ^ n) (hi : i < n) :
    (B + dig X i - dig Y i - bsub X Y c0 i) % B = dig (X + B ^ n - Y - c0) i := by
  have hp := Bpow_pos i
  have hx := Nat.mod_lt X hp; have hy := Nat.mod_lt Y hp
  have hdx := dig_lt X i; have hdy := dig_lt Y i
  -- X + B^n - Y - c0 = (p * b + x - y - c0) + p * ((X/p) + (B^n/p) - (Y/p) - b)
  obtain ⟨k, rfl⟩ : ∃ k, n = i + 1 + k := ⟨n - (i + 1), by omega⟩
  have e : B ^ (i + 1 + k) = B ^ i * (B * B ^ k) := by rw [Nat.pow_add, Nat.pow_succ, Nat.mul_assoc]
  have hk := Bpow_pos k
  unfold dig
  have hXd := Nat.mod_add_div X (B ^ i); have hYd := Nat.mod_add_div Y (B ^ i)
  have hYq : Y / B ^ i < B * B ^ k := by rw [Nat.div_lt_iff_lt_mul hp, Nat.mul_comm, ← e]; exact hY
  have hXq : X / B ^ i < B * B ^ k := by rw [Nat.div_lt_iff_lt_mul hp, Nat.mul_comm, ← e]; exact hX
  have hb : bsub X Y c0 i ≤ 1 := bsub_le _ _ _ _
  have hbd : bsub X Y c0 i = if X % B ^ i < Y % B ^ i + c0 then 1 else 0 := rfl
  have key : (X + B ^ (i + 1 + k) - Y - c0) / B ^ i = X / B ^ i + B * B ^ k - Y / B ^ i - bsub X Y c0 i := by
    rw [e]
    generalize X % B ^ i = x at *; generalize Y % B ^ i = y at *
    generalize hXe : X / B ^ i = xq at *; generalize hYe : Y / B ^ i = yq at *
    generalize bsub X Y c0 i = b at *
    generalize B * B ^ k = M at *
    generalize B ^ i = p at *
    have h1 : X + p * M - Y - c0 = (p * b + x - y - c0) + p * (xq + M - yq - b) := by
      have e1 : p * (xq + M - yq - b) + p * yq + p * b = p * xq + p * M := by
        rw [← Nat.mul_add, ← Nat.mul_add, ← Nat.mul_add]; congr 1; omega
      have : p * yq + p ≤ p * M := by rw [← Nat.mul_succ]; exact Nat.mul_le_mul_left _ hYq
      rcases Nat.eq_zero_or_pos b with h0 | h0
      · subst h0
        split at hbd <;> simp only [Nat.mul_zero] at * <;> omega
      · have : b = 1 := by omega
        subst this
        split at hbd <;> simp only [Nat.mul_one] at * <;> omega
    rw [h1, Nat.add_mul_div_left _ _ hp, Nat.div_eq_of_lt]
    · omega
    · split at hbd <;> subst hbd <;> simp only [Nat.mul_zero, Nat.mul_one] <;> omega
  rw [key]
  have hxq : X / B ^ i % B + B * (X / B ^ i / B) = X / B ^ i := Nat.mod_add_div _ _
  have hyq : Y / B ^ i % B + B * (Y / B ^ i / B) = Y / B ^ i := Nat.mod_add_div _ _
  have hyb : Y / B ^ i / B < B ^ k := by rw [Nat.div_lt_iff_lt_mul B_pos, Nat.mul_comm]; exact hYq
  generalize X / B ^ i / B = xb at *; generalize Y / B ^ i / B = yb at *
  have hxl : X / B ^ i % B < B := Nat.mod_lt _ B_pos
  have hyl : Y / B ^ i % B < B := Nat.mod_lt _ B_pos
  generalize X / B ^ i % B = dx at *; generalize Y / B ^ i % B = dy at *
  rw [← hxq, ← hyq]
  generalize B ^ k = K at *
  have h2 : dx + B * xb + B * K - (dy + B * yb) - bsub X Y c0 i = (B + dx - dy - bsub X Y c0 i) + B * (xb + (K - 1) - yb) := by
    have e1 : B * (xb + (K - 1) - yb) + B * yb + B = B * xb + B * K := by
      rw [← Nat.mul_add, ← Nat.mul_add, ← Nat.mul_succ]; congr 1; omega
    have : B * yb + B ≤ B * K := by rw [← Nat.mul_succ]; exact Nat.mul_le_mul_left _ hyb
    omega
  rw [h2, Nat.add_mul_mod_self_left]

/-- the carry into place i of X * y + r -/
def cmul (X y r i : Nat) : Nat := (X % B ^ i * y + r) / B ^ i
theorem cmul_zero (X y r : Nat) : cmul X y r 0 = r := by simp [cmul, Nat.mod_one]
theorem cmul_dig (X y r i : Nat) : (dig X i * y + cmul X y r i) % B = dig (X * y + r) i := by
  have hp := Bpow_pos i
  have e : (X * y + r) / B ^ i = X / B ^ i * y + cmul X y r i := by
    have h1 : X * y + r = (X % B ^ i * y + r) + B ^ i * (X / B ^ i * y) := by
      conv => lhs; rw [← Nat.mod_add_div X (B ^ i)]
      rw [Nat.add_mul, Nat.mul_assoc]; omega
    conv => lhs; rw [h1]
    rw [Nat.add_mul_div_left _ _ hp]; unfold cmul; omega
  unfold dig; rw [e]; simp [Nat.add_mod, Nat.mul_mod]
theorem cmul_succ (X y r i : Nat) : (dig X i * y + cmul X y r i) / B = cmul X y r (i + 1) := by
  have hp := Bpow_pos i
  unfold cmul
  rw [mod_succ X]
  have h1 : (X % B ^ i + B ^ i * dig X i) * y + r = (X % B ^ i * y + r) + B ^ i * (dig X i * y) := by
    rw [Nat.add_mul, Nat.mul_assoc]; omega
  rw [h1, Nat.pow_succ, ← Nat.div_div_eq_div_mul, Nat.add_mul_div_left _ _ hp]
  congr 1; omega
theorem cmul_lt (X i : Nat) {y r : Nat} (hy : y < B) (hr : r < B) : cmul X y r i < B := by
  have hp := Bpow_pos i
  unfold cmul
  rw [Nat.div_lt_iff_lt_mul hp]
  have hx := Nat.mod_lt X hp
  generalize X % B ^ i = x at *; generalize B ^ i = p at *
  have h1 : x * y ≤ (p - 1) * y := Nat.mul_le_mul_right _ (by omega)
  have h2 : (p - 1) * y ≤ (p - 1) * (B - 1) := Nat.mul_le_mul_left _ (by omega)
  have h3 : (p - 1) * (B - 1) + (p - 1) + B = B * p := by
    obtain ⟨q, rfl⟩ : ∃ q, p = q + 1 := ⟨p - 1, by omega⟩
    obtain ⟨b, hb⟩ : ∃ b, B = b + 1 := ⟨B - 1, by have := B_pos; omega⟩
    rw [hb]; simp only [Nat.add_sub_cancel, Nat.add_mul, Nat.mul_add]; rw [Nat.mul_comm q b]; omega
  omega
theorem cmul_top {X y r n : Nat} (hX : X < B ^ n) : cmul X y r n = (X * y + r) / B ^ n := by
  unfold cmul; rw [Nat.mod_eq_of_lt hX]

/-- the carry into place i of X + Y * m + a -/
def cam (X Y m a i : Nat) : Nat := (X % B ^ i + Y % B ^ i * m + a) / B ^ i
theorem cam_zero (X Y m a : Nat) : cam X Y m a 0 = a := by simp [cam, Nat.mod_one]
theorem cam_dig (X Y m a i : Nat) : (dig X i + dig Y i * m + cam X Y m a i) % B = dig (X + Y * m + a) i := by
  have hp := Bpow_pos i
  have e : (X + Y * m + a) / B ^ i = X / B ^ i + Y / B ^ i * m + cam X Y m a i := by
    have h1 : X + Y * m + a = (X % B ^ i + Y % B ^ i * m + a) + B ^ i * (X / B ^ i + Y / B ^ i * m) := by
      have h2 : Y * m = Y % B ^ i * m + B ^ i * (Y / B ^ i * m) := by
        conv => lhs; rw [← Nat.mod_add_div Y (B ^ i)]
        rw [Nat.add_mul, Nat.mul_assoc]
      have h3 := Nat.mod_add_div X (B ^ i)
      rw [h2, Nat.mul_add]; omega
    conv => lhs; rw [h1]
    rw [Nat.add_mul_div_left _ _ hp]; unfold cam; omega
  unfold dig; rw [e]; simp [Nat.add_mod, Nat.mul_mod]
theorem cam_succ (X Y m a i : Nat) : (dig X i + dig Y i * m + cam X Y m a i) / B = cam X Y m a (i + 1) := by
  have hp := Bpow_pos i
  unfold cam
  rw [mod_succ X, mod_succ Y]
  have h1 : X % B ^ i + B ^ i * dig X i + (Y % B ^ i + B ^ i * dig Y i) * m + a = (X % B ^ i + Y % B ^ i * m + a) + B ^ i * (dig X i + dig Y i * m) := by
    rw [Nat.add_mul, Nat.mul_add, Nat.mul_assoc]; omega
  rw [h1, Nat.pow_succ, ← Nat.div_div_eq_div_mul, Nat.add_mul_div_left _ _ hp]
  congr 1; omega
theorem cam_lt (X Y i : Nat) {m a : Nat} (hm : m < B) (ha : a < B) : cam X Y m a i < B := by
  have hp := Bpow_pos i
  unfold cam
  rw [Nat.div_lt_iff_lt_mul hp]
  have hx := Nat.mod_lt X hp; have hy := Nat.mod_lt Y hp
  generalize X % B ^ i = x at *; generalize Y % B ^ i = y at *; generalize B ^ i = p at *
  have h1 : y * m ≤ (p - 1) * m := Nat.mul_le_mul_right _ (by omega)
  have h2 : (p - 1) * m ≤ (p - 1) * (B - 1) := Nat.mul_le_mul_left _ (by omega)
  have h3 : (p - 1) * (B - 1) + (p - 1) + B = B * p := by
    obtain ⟨q, rfl⟩ : ∃ q, p = q + 1 := ⟨p - 1, by omega⟩
    obtain ⟨b, hb⟩ : ∃ b, B = b + 1 := ⟨B - 1, by have := B_pos; omega⟩
    rw [hb]; simp only [Nat.add_sub_cancel, Nat.add_mul, Nat.mul_add]; rw [Nat.mul_comm q b]; omega
  omega
theorem cam_top {X Y m a n : Nat} (hX : X < B ^ n) (hY : Y < B ^ n) : cam X Y m a n = (X + Y * m + a) / B ^ n := by
  unfold cam; rw [Nat.mod_eq_of_lt hX, Nat.mod_eq_of_lt hY]

end Go.Proofs.YtbnmgopobmiadaaGreatDoor

namespace Go.Proofs.YtbnmgopobmiadaaGreatDoor

theorem B_split {s : Nat} (hs : s ≤ 64) : B = 2 ^ s * 2 ^ (64 - s) := by
  rw [← Nat.pow_add, show s + (64 - s) = 64 by omega]; exact B_eq

/-- a multiple of 2^s and something below 2^s, within a word -/
theorem mul_add_mod_B {s : Nat} (hs : s ≤ 64) (q e : Nat) (he : e < 2 ^ s) : (q * 2 ^ s + e) % B = (q % B * 2 ^ s) % B + e := by
  have hB := B_split hs
  have h1 : (q * 2 ^ s + e) % B = (q * 2 ^ s) % B + e := by
    rw [hB, Nat.mul_comm q, Nat.mul_mod_mul_left]
    have hp : 0 < 2 ^ (64 - s) := Nat.pow_pos (by omega)
    have hm := Nat.mod_lt q hp
    have hlt : 2 ^ s * (q % 2 ^ (64 - s)) + e < 2 ^ s * 2 ^ (64 - s) := by
      have : 2 ^ s * (q % 2 ^ (64 - s)) + 2 ^ s ≤ 2 ^ s * 2 ^ (64 - s) := by rw [← Nat.mul_succ]; exact Nat.mul_le_mul_left _ hm
      omega
    have e1 : 2 ^ s * q + e = (2 ^ s * (q % 2 ^ (64 - s)) + e) + 2 ^ s * 2 ^ (64 - s) * (q / 2 ^ (64 - s)) := by
      conv => lhs; rw [← Nat.mod_add_div q (2 ^ (64 - s))]
      rw [Nat.mul_add, Nat.mul_assoc]; omega
    rw [e1, Nat.add_mul_mod_self_left, Nat.mod_eq_of_lt hlt]
  rw [h1]; simp [Nat.mul_mod]

/-- the words of X * 2^s -/
theorem lsh_dig_zero (X s : Nat) : dig (X * 2 ^ s) 0 = (dig X 0 * 2 ^ s) % B := by
  rw [dig_zero, dig_zero]; simp [Nat.mul_mod]
theorem lsh_dig_succ (X k : Nat) {s : Nat} (hs : s ≤ 64) : dig (X * 2 ^ s) (k + 1) = (dig X (k + 1) * 2 ^ s) % B + dig X k / 2 ^ (64 - s) := by
  have hp := Bpow_pos (k + 1); have hp0 := Bpow_pos k
  have h2 : 0 < 2 ^ s := Nat.pow_pos (by omega)
  have hB := B_split hs
  have e : X * 2 ^ s / B ^ (k + 1) = X / B ^ (k + 1) * 2 ^ s + dig X k / 2 ^ (64 - s) := by
    have h1 : X * 2 ^ s = X % B ^ (k + 1) * 2 ^ s + B ^ (k + 1) * (X / B ^ (k + 1) * 2 ^ s) := by
      conv => lhs; rw [← Nat.mod_add_div X (B ^ (k + 1))]
      rw [Nat.add_mul, Nat.mul_assoc]
    rw [h1, Nat.add_mul_div_left _ _ hp, Nat.add_comm]
    congr 1
    rw [mod_succ, Nat.pow_succ, ← Nat.div_div_eq_div_mul, Nat.add_mul, Nat.mul_assoc, Nat.add_mul_div_left _ _ hp0]
    have hr : X % B ^ k * 2 ^ s / B ^ k < 2 ^ s := by
      rw [Nat.div_lt_iff_lt_mul hp0, Nat.mul_comm]; exact Nat.mul_lt_mul_of_pos_left (Nat.mod_lt _ hp0) h2
    generalize X % B ^ k * 2 ^ s / B ^ k = r at *
    rw [hB, ← Nat.div_div_eq_div_mul, Nat.add_comm, Nat.mul_comm (dig X k), Nat.mul_add_div h2, Nat.div_eq_of_lt hr, Nat.add_zero]
  unfold dig at e ⊢
  rw [e]
  refine mul_add_mod_B hs _ _ ?_
  have hd : X / B ^ k % B < B := Nat.mod_lt _ B_pos
  rw [Nat.div_lt_iff_lt_mul (Nat.pow_pos (by omega)), ← hB]; exact hd
/-- the words of X / 2^s -/
theorem rsh_dig (X k : Nat) {s : Nat} (hs : s ≤ 64) : dig (X / 2 ^ s) k = dig X k / 2 ^ s + (dig X (k + 1) * 2 ^ (64 - s)) % B := by
  have h2 : 0 < 2 ^ s := Nat.pow_pos (by omega)
  have hB := B_split hs
  have e : X / 2 ^ s / B ^ k = X / B ^ (k + 1) * 2 ^ (64 - s) + dig X k / 2 ^ s := by
    rw [Nat.div_div_eq_div_mul, Nat.mul_comm, ← Nat.div_div_eq_div_mul]
    unfold dig
    conv => lhs; rw [← Nat.mod_add_div (X / B ^ k) B]
    rw [Nat.div_div_eq_div_mul, ← Nat.pow_succ]
    conv => lhs; rw [show B * (X / B ^ (k + 1)) = 2 ^ s * (X / B ^ (k + 1) * 2 ^ (64 - s)) by rw [hB, Nat.mul_assoc, Nat.mul_comm (2 ^ (64 - s))]]
    rw [Nat.add_mul_div_left _ _ h2, Nat.add_comm]
  unfold dig at e ⊢
  rw [e, Nat.add_comm (X / B ^ k % B / 2 ^ s)]
  have h64 : 64 - (64 - s) = s := by omega
  refine mul_add_mod_B (s := 64 - s) (by omega) _ _ ?_
  have hd : X / B ^ k % B < B := Nat.mod_lt _ B_pos
  rw [Nat.div_lt_iff_lt_mul h2, Nat.mul_comm, ← hB]; exact hd
/-- 'or' of two words that meet nowhere is their sum -/
theorem or_disjoint (a b : Nat) {s : Nat} (hs : s ≤ 64) (hb : b < 2 ^ s) : (a * 2 ^ s) % B ||| b = (a * 2 ^ s) % B + b := by
  rw [B_split hs, Nat.mul_comm a, Nat.mul_mod_mul_left, ← Nat.two_pow_add_eq_or_of_lt hb]
theorem lsh_top {X n s : Nat} (hn : 0 < n) (hX : X < B ^ n) (hs : s ≤ 64) : X * 2 ^ s / B ^ n = dig X (n - 1) / 2 ^ (64 - s) := by
  obtain ⟨m, rfl⟩ : ∃ m, n = m + 1 := ⟨n - 1, by omega⟩
  rw [Nat.add_sub_cancel, dig_top hX]
  have h2 : 0 < 2 ^ s := Nat.pow_pos (by omega)
  rw [Nat.pow_succ, Nat.div_div_eq_div_mul]
  generalize B ^ m = p
  conv => lhs; rw [B_split hs]
  rw [← Nat.mul_assoc, Nat.mul_comm p, Nat.mul_assoc, ← Nat.div_div_eq_div_mul, Nat.mul_div_cancel _ h2]
end Go.Proofs.YtbnmgopobmiadaaGreatDoor

namespace Go.Proofs.YtbnmgopobmiadaaGreatDoor

def H32 : Nat := 4294967296
theorem H32_sq : H32 * H32 = B := by unfold H32 B; rfl

theorem half_key {b yn1 yn0 hi q1 rhat : Nat} (hq : q1 * yn1 + rhat = hi) : q1 * (yn1 * b + yn0) + b * rhat = hi * b + q1 * yn0 := by
  subst hq
  rw [Nat.mul_add, Nat.add_mul, Nat.mul_assoc, Nat.mul_comm b rhat]; omega
theorem half_lt {b y hi un1 : Nat} (h4 : un1 < b) (hhi : hi < y) : (hi * b + un1) / y < b := by
  rw [Nat.div_lt_iff_lt_mul (by omega)]
  have : hi * b + b ≤ y * b := by rw [← Nat.succ_mul]; exact Nat.mul_le_mul_right _ hhi
  rw [Nat.mul_comm b y]; omega
/-- the guess is right where the test says no -/
theorem half_no {b yn1 yn0 hi un1 q1 rhat : Nat} (hy : 0 < yn1 * b + yn0) (hq : q1 * yn1 + rhat = hi) (hle : (hi * b + un1) / (yn1 * b + yn0) ≤ q1)
    (hc : q1 * yn0 ≤ b * rhat + un1) : q1 = (hi * b + un1) / (yn1 * b + yn0) := by
  refine Nat.le_antisymm ?_ hle
  rw [Nat.le_div_iff_mul_le hy]
  have := half_key (b := b) (yn0 := yn0) hq
  omega
/-- the guess is too great where it says yes -/
theorem half_yes {b yn1 yn0 hi un1 q1 rhat : Nat} (h4 : un1 < b) (hhi : hi < yn1 * b + yn0) (hq : q1 * yn1 + rhat = hi)
    (hc : b ≤ q1 ∨ b * rhat + un1 < q1 * yn0) : (hi * b + un1) / (yn1 * b + yn0) < q1 := by
  rcases hc with hc | hc
  · have := half_lt h4 hhi; omega
  · rw [Nat.div_lt_iff_lt_mul (by omega)]
    have := half_key (b := b) (yn0 := yn0) hq
    omega
/-- and it is right when the rest has grown past a half -/
theorem half_big {b yn1 yn0 hi un1 q1 rhat : Nat} (h3 : yn0 < b) (hy : 0 < yn1 * b + yn0) (hq : q1 * yn1 + rhat = hi) (hle : (hi * b + un1) / (yn1 * b + yn0) ≤ q1)
    (hb : q1 ≤ b) (hr : b ≤ rhat) : q1 = (hi * b + un1) / (yn1 * b + yn0) := by
  refine half_no hy hq hle ?_
  have h1 : q1 * yn0 ≤ b * b := Nat.mul_le_mul hb (by omega)
  have h2 : b * b ≤ b * rhat := Nat.mul_le_mul_left _ hr
  omega
theorem half_first {b yn1 yn0 hi un1 : Nat} (h1 : b ≤ 2 * yn1) (h3 : yn0 < b) (h4 : un1 < b) (hhi : hi < yn1 * b + yn0) :
    (hi * b + un1) / (yn1 * b + yn0) ≤ hi / yn1 ∧ hi / yn1 ≤ b + 1 := by
  have hp : 0 < yn1 := by omega
  constructor
  · rw [Nat.le_div_iff_mul_le hp]
    have hq : (hi * b + un1) / (yn1 * b + yn0) * (yn1 * b + yn0) ≤ hi * b + un1 := Nat.div_mul_le_self _ _
    generalize (hi * b + un1) / (yn1 * b + yn0) = q at *
    rw [Nat.mul_add, ← Nat.mul_assoc] at hq
    refine Nat.le_of_not_lt fun h => ?_
    have : (hi + 1) * b ≤ q * yn1 * b := Nat.mul_le_mul_right _ h
    rw [Nat.add_mul] at this
    omega
  · have : hi / yn1 < b + 2 := by
      rw [Nat.div_lt_iff_lt_mul hp, Nat.add_mul, Nat.mul_comm b yn1]; omega
    omega
theorem half_rest {y N : Nat} : N - N / y * y = N % y := by
  have := Nat.mod_add_div N y
  rw [Nat.mul_comm] at this; omega
/-- the two halves together -/
theorem half_two {y hi lo : Nat} (hy : 0 < y) :
    (hi * H32 + lo / H32) / y * H32 + ((hi * H32 + lo / H32) % y * H32 + lo % H32) / y = (hi * B + lo) / y ∧ ((hi * H32 + lo / H32) % y * H32 + lo % H32) % y = (hi * B + lo) % y := by
  have e : hi * B + lo = (hi * H32 + lo / H32) * H32 + lo % H32 := by
    have := Nat.mod_add_div lo H32
    rw [Nat.add_mul, Nat.mul_assoc, H32_sq, Nat.mul_comm (lo / H32)]; omega
  rw [e]
  generalize hi * H32 + lo / H32 = N
  generalize lo % H32 = l
  have e2 : N * H32 + l = (N % y * H32 + l) + y * (N / y * H32) := by
    have := Nat.mod_add_div N y
    conv => lhs; rw [← this]
    rw [Nat.add_mul, Nat.mul_assoc]; omega
  rw [e2]
  exact ⟨by rw [Nat.add_mul_div_left _ _ hy]; omega, by rw [Nat.add_mul_mod_self_left]⟩
end Go.Proofs.YtbnmgopobmiadaaGreatDoor

namespace Go.Proofs.YtbnmgopobmiadaaGreatDoor

theorem divmod_of {T D q r : Nat} (h : T = q * D + r) (hr : r < D) : T / D = q ∧ T % D = r := by
  have hD : 0 < D := by omega
  subst h
  refine ⟨?_, ?_⟩
  · rw [Nat.add_comm, Nat.add_mul_div_right _ _ hD, Nat.div_eq_of_lt hr, Nat.zero_add]
  · rw [Nat.add_comm, Nat.add_mul_mod_self_right, Nat.mod_eq_of_lt hr]

theorem mg_rec {b D K : Nat} (hb : 0 < b) (hD : b ≤ 2 * D) (hDB : D < b) (hK : K = (b * b - 1) / D) : b ≤ K ∧ K < 2 * b ∧ K * D ≤ b * b ∧ b * b ≤ K * D + D := by
  have hD0 : 0 < D := by omega
  have hbb : b * b = (b - 1) * b + b := by rw [← Nat.succ_mul]; congr 1; omega
  refine ⟨?_, ?_, ?_, ?_⟩
  · rw [hK, Nat.le_div_iff_mul_le hD0]
    have : b * D ≤ b * (b - 1) := Nat.mul_le_mul_left _ (by omega)
    rw [Nat.mul_comm b (b - 1)] at this
    omega
  · rw [hK, Nat.div_lt_iff_lt_mul hD0]
    have : b * b ≤ b * (2 * D) := Nat.mul_le_mul_left _ hD
    have e : b * (2 * D) = 2 * b * D := by rw [← Nat.mul_assoc, Nat.mul_comm b 2]
    omega
  · have := Nat.div_mul_le_self (b * b - 1) D
    rw [← hK] at this; omega
  · have := Nat.lt_div_mul_add (a := b * b - 1) hD0
    rw [← hK] at this; omega

theorem mg_q {b D K X1 X0 q : Nat} (hb : 0 < b) (hD : b ≤ 2 * D) (hDB : D < b) (h1 : X1 < D) (h0 : X0 < b) (hK1 : K * D ≤ b * b) (hK2 : b * b ≤ K * D + D) (hq : q = (K * X1 + X0) / b) :
    q * D ≤ X1 * b + X0 ∧ X1 * b + X0 < q * D + b + D ∧ q < b := by
  have hle : b * q ≤ K * X1 + X0 := by rw [hq]; exact Nat.mul_div_le _ _
  have hlt : K * X1 + X0 < b * q + b := by
    have := Nat.lt_div_mul_add (a := K * X1 + X0) hb
    rw [← hq, Nat.mul_comm q b] at this; exact this
  have hA : q * D ≤ X1 * b + X0 := by
    refine Nat.le_of_mul_le_mul_left (c := b) ?_ hb
    have e1 : b * (q * D) ≤ (K * X1 + X0) * D := by rw [← Nat.mul_assoc]; exact Nat.mul_le_mul_right _ hle
    have e2 : (K * X1 + X0) * D = K * D * X1 + X0 * D := by rw [Nat.add_mul, Nat.mul_right_comm]
    have e3 : K * D * X1 ≤ b * b * X1 := Nat.mul_le_mul_right _ hK1
    have e4 : X0 * D ≤ X0 * b := Nat.mul_le_mul_left _ (by omega)
    have e5 : b * (X1 * b + X0) = b * b * X1 + X0 * b := by rw [Nat.mul_add, ← Nat.mul_assoc, Nat.mul_right_comm, Nat.mul_comm b X0]
    omega
  refine ⟨hA, ?_, ?_⟩
  · refine Nat.lt_of_mul_lt_mul_left (a := b) ?_
    obtain ⟨e, rfl⟩ : ∃ e, b = D + e := ⟨b - D, by omega⟩
    have e1 : (K * X1 + X0 + 1) * D ≤ ((D + e) * q + (D + e)) * D := Nat.mul_le_mul_right _ hlt
    have e2 : (K * X1 + X0 + 1) * D = K * D * X1 + X0 * D + D := by rw [Nat.add_mul, Nat.add_mul, Nat.mul_right_comm, Nat.one_mul]
    have e3 : ((D + e) * q + (D + e)) * D = (D + e) * (q * D) + (D + e) * D := by rw [Nat.add_mul, Nat.mul_assoc]
    have e4 : (D + e) * (D + e) * X1 ≤ (K * D + D) * X1 := Nat.mul_le_mul_right _ hK2
    have e5 : (K * D + D) * X1 = K * D * X1 + D * X1 := Nat.add_mul _ _ _
    have e6 : (D + e) * (X1 * (D + e) + X0) = (D + e) * (D + e) * X1 + (D * X0 + e * X0) := by rw [Nat.mul_add, ← Nat.mul_assoc, Nat.mul_right_comm, Nat.add_mul D e X0]
    have e7 : (D + e) * (q * D + (D + e) + D) = (D + e) * (q * D) + (D + e) * (D + e) + (D + e) * D := by rw [Nat.mul_add, Nat.mul_add]
    have e8 : D * X1 ≤ D * (D + e) := Nat.mul_le_mul_left _ (by omega)
    have e9 : e * X0 ≤ e * (D + e) := Nat.mul_le_mul_left _ (by omega)
    have e10 : (D + e) * (D + e) = D * (D + e) + e * (D + e) := Nat.add_mul _ _ _
    have e11 : D * X0 = X0 * D := Nat.mul_comm _ _
    omega
  · refine Nat.lt_of_mul_lt_mul_right (a := D) ?_
    have : (X1 + 1) * b ≤ D * b := Nat.mul_le_mul_right _ h1
    rw [Nat.add_mul, Nat.one_mul] at this
    rw [Nat.mul_comm b D]; omega

/-- the reciprocal of a word -/
def recip (D : Nat) : Nat := (B * B - 1) / D - B
theorem recip_eq {D : Nat} (hD : B ≤ 2 * D) (hDB : D < B) : ((B - 1 - D) * B + (B - 1)) / D = recip D := by
  have hB := B_pos
  have : (B - 1 - D) * B + (B - 1) = B * B - 1 - D * B := by
    have e1 : (B - 1 - D) * B + (D + 1) * B = B * B := by rw [← Nat.add_mul]; congr 1; omega
    have e2 : (D + 1) * B = D * B + B := by rw [Nat.add_mul, Nat.one_mul]
    omega
  rw [this, recip]; exact Nat.sub_mul_div _ _ _
theorem recip_lt {D : Nat} (hD : B ≤ 2 * D) (hDB : D < B) : recip D < B := by
  obtain ⟨h1, h2, _⟩ := mg_rec B_pos hD hDB rfl
  unfold recip; omega
theorem recip_q {D X1 X0 q : Nat} (hD : B ≤ 2 * D) (hDB : D < B) (h1 : X1 < D) (h0 : X0 < B) (hq : q = (recip D * X1 + X1 * B + X0) / B) :
    q * D ≤ X1 * B + X0 ∧ X1 * B + X0 < q * D + B + D ∧ q < B := by
  obtain ⟨k1, k2, k3, k4⟩ := mg_rec B_pos hD hDB rfl
  refine mg_q (K := (B * B - 1) / D) B_pos hD hDB h1 h0 k3 k4 ?_
  rw [hq]; congr 2
  rw [Nat.mul_comm X1 B, ← Nat.add_mul]; congr 1
  unfold recip; omega
/-- the words of the guess -/
theorem guess_word {m X1 X0 q : Nat} (hq : q = (m * X1 + X1 * B + X0) / B) (hqB : q < B) : (m * X1 / B + X1 + (m * X1 % B + X0) / B) % B = q := by
  have h := Nat.mod_add_div (m * X1) B
  have e : m * X1 + X1 * B + X0 = m * X1 % B + X0 + B * (m * X1 / B + X1) := by
    rw [Nat.mul_add, Nat.mul_comm B X1]; omega
  rw [e, Nat.add_mul_div_left _ _ B_pos] at hq
  rw [Nat.add_comm (m * X1 / B + X1), ← hq]
  exact Nat.mod_eq_of_lt hqB
end Go.Proofs.YtbnmgopobmiadaaGreatDoor

namespace Go.Proofs.YtbnmgopobmiadaaGreatDoor

/-- the guess of three words by two: hi = ujn * B + u1 -/
structure Guess (vn1 vn2 hi u2 q r : Nat) : Prop where
  eq : q * vn1 + r = hi
  le : (hi * B + u2) / (vn1 * B + vn2) ≤ q

theorem guess_key {vn1 vn2 hi u2 q r : Nat} (hq : q * vn1 + r = hi) : q * (vn1 * B + vn2) + (r * B + u2) = hi * B + u2 + q * vn2 := by
  subst hq; rw [Nat.mul_add, Nat.add_mul, Nat.mul_assoc]; omega
theorem Guess.no {vn1 vn2 hi u2 q r : Nat} (h : Guess vn1 vn2 hi u2 q r) (hv : 0 < vn1) (hc : q * vn2 ≤ r * B + u2) : q = (hi * B + u2) / (vn1 * B + vn2) := by
  refine Nat.le_antisymm ?_ h.le
  rw [Nat.le_div_iff_mul_le (by have : 0 < vn1 * B := Nat.mul_pos hv B_pos; omega)]
  have := guess_key (u2 := u2) (vn2 := vn2) h.eq
  omega
theorem Guess.yes_lt {vn1 vn2 hi u2 q r : Nat} (h : Guess vn1 vn2 hi u2 q r) (hv : 0 < vn1) (hc : r * B + u2 < q * vn2) : (hi * B + u2) / (vn1 * B + vn2) < q := by
  rw [Nat.div_lt_iff_lt_mul (by have : 0 < vn1 * B := Nat.mul_pos hv B_pos; omega)]
  have := guess_key (u2 := u2) (vn2 := vn2) h.eq
  omega
theorem Guess.yes {vn1 vn2 hi u2 q r : Nat} (h : Guess vn1 vn2 hi u2 q r) (hv : 0 < vn1) (hc : r * B + u2 < q * vn2) : 0 < q ∧ Guess vn1 vn2 hi u2 (q - 1) (r + vn1) := by
  have hl := h.yes_lt hv hc
  have h0 : 0 < q := Nat.zero_lt_of_lt hl
  refine ⟨h0, ?_, Nat.le_sub_one_of_lt hl⟩
  have := h.eq
  obtain ⟨k, rfl⟩ : ∃ k, q = k + 1 := ⟨q - 1, by omega⟩
  rw [Nat.add_sub_cancel, ← h.eq, Nat.add_mul]; omega
theorem Guess.big {vn1 vn2 hi u2 q r : Nat} (h : Guess vn1 vn2 hi u2 q r) (hv : 0 < vn1) (h2 : vn2 < B) (hq : q < B) (hr : B ≤ r) : q = (hi * B + u2) / (vn1 * B + vn2) := by
  refine h.no hv ?_
  have e1 : q * vn2 ≤ B * B := Nat.mul_le_mul (by omega) (by omega)
  have e2 : B * B ≤ r * B := Nat.mul_le_mul_right _ hr
  omega
theorem Guess.start {vn1 vn2 ujn u1 u2 : Nat} (hv : 0 < vn1) (h1 : u2 < B) : Guess vn1 vn2 (ujn * B + u1) u2 ((ujn * B + u1) / vn1) ((ujn * B + u1) % vn1) := by
  refine ⟨by rw [Nat.mul_comm]; exact Nat.div_add_mod _ _, ?_⟩
  rw [Nat.le_div_iff_mul_le hv]
  generalize ujn * B + u1 = hi
  have hq : (hi * B + u2) / (vn1 * B + vn2) * (vn1 * B + vn2) ≤ hi * B + u2 := Nat.div_mul_le_self _ _
  generalize (hi * B + u2) / (vn1 * B + vn2) = q at *
  rw [Nat.mul_add, ← Nat.mul_assoc] at hq
  refine Nat.le_of_not_lt fun h => ?_
  have : (hi + 1) * B ≤ q * vn1 * B := Nat.mul_le_mul_right _ h
  rw [Nat.add_mul, Nat.one_mul] at this
  omega

/-- the guess against the whole: W = N3 * P + low, V = v2 * P + vlow -/
theorem guess_whole {P N3 low v2 vlow q W V : Nat} (hW : W = N3 * P + low) (hV : V = v2 * P + vlow) (hlow : low < P) (hvl : vlow < P) (hv2 : B ≤ v2 + 1) (hv0 : 0 < v2) (hq : q = N3 / v2) (hqB : q ≤ B) :
    W / V ≤ q ∧ q ≤ W / V + 1 := by
  have hP : 0 < P := by omega
  have hV0 : 0 < V := by rw [hV]; have := Nat.mul_pos hv0 hP; omega
  constructor
  · have : W / V ≤ W / (v2 * P) := Nat.div_le_div_left (by omega) (Nat.mul_pos hv0 hP)
    have e : W / (v2 * P) = N3 / v2 := by
      rw [Nat.mul_comm v2 P, ← Nat.div_div_eq_div_mul, hW, Nat.add_comm, Nat.add_mul_div_right _ _ hP, Nat.div_eq_of_lt hlow, Nat.zero_add]
    omega
  · by_cases h0 : q = 0
    · rw [h0]; exact Nat.zero_le _
    obtain ⟨p, rfl⟩ : ∃ p, q = p + 1 := ⟨q - 1, by omega⟩
    have : p ≤ W / V := by
      rw [Nat.le_div_iff_mul_le hV0]
      have h1 : (p + 1) * v2 ≤ N3 := by rw [hq]; exact Nat.div_mul_le_self _ _
      have h2 : p * V ≤ p * ((v2 + 1) * P) := Nat.mul_le_mul_left _ (by rw [hV, Nat.add_mul]; omega)
      have h3 : p * ((v2 + 1) * P) = (p * v2 + p) * P := by rw [← Nat.mul_assoc, Nat.mul_add, Nat.mul_one]
      have h4 : p * v2 + p ≤ N3 := by rw [Nat.add_mul, Nat.one_mul] at h1; omega
      have h5 : (p * v2 + p) * P ≤ N3 * P := Nat.mul_le_mul_right _ h4
      omega
    omega
/-- the guess when the top words are the same -/
theorem guess_max {P ujn low vlow W V : Nat} (hW : W = ujn * B * P + low) (hV : V = ujn * P + vlow) (hvl : vlow < P) (h2 : B ≤ 2 * ujn) (hWV : W < V * B) :
    W / V ≤ B - 1 ∧ B - 1 ≤ W / V + 1 := by
  have hB := B_pos
  have hP : 0 < P := by omega
  have hV0 : 0 < V := by rw [hV]; have := Nat.mul_pos (show 0 < ujn by omega) hP; omega
  constructor
  · have : W / V < B := by rw [Nat.div_lt_iff_lt_mul hV0, Nat.mul_comm]; exact hWV
    omega
  · have : B - 2 ≤ W / V := by
      rw [Nat.le_div_iff_mul_le hV0]
      have h1 : (B - 2) * V ≤ (B - 2) * ((ujn + 1) * P) := Nat.mul_le_mul_left _ (by rw [hV, Nat.add_mul]; omega)
      have h3 : (B - 2) * ((ujn + 1) * P) = ((B - 2) * ujn + (B - 2)) * P := by rw [← Nat.mul_assoc, Nat.mul_add, Nat.mul_one]
      have h4 : (B - 2) * ujn + (B - 2) ≤ ujn * B := by
        have : (B - 2) * ujn + 2 * ujn = ujn * B := by
          have e : B - 2 + 2 = B := by unfold B; omega
          rw [← Nat.add_mul, e, Nat.mul_comm]
        omega
      have h5 := Nat.mul_le_mul_right P h4
      omega
    omega

/-- what stands in u when the digits from k on are found -/
def ucur (U V k : Nat) : Nat := U % (V * B ^ k)
theorem ucur_win (U V j : Nat) : ucur U V (j + 1) / B ^ j = U / B ^ j % (V * B) := by
  unfold ucur
  rw [show V * B ^ (j + 1) = B ^ j * (V * B) by rw [Nat.pow_succ, Nat.mul_left_comm]]
  exact Nat.mod_mul_right_div_self _ _ _
theorem ucur_lt {U V : Nat} (k : Nat) (hV : 0 < V) : ucur U V k < V * B ^ k := Nat.mod_lt _ (Nat.mul_pos hV (Bpow_pos k))
theorem ucur_dig (U V j : Nat) : ucur U V (j + 1) / B ^ j / V = dig (U / V) j := by
  rw [ucur_win, Nat.mod_mul_right_div_self, Nat.div_div_eq_div_mul, Nat.mul_comm, ← Nat.div_div_eq_div_mul]; rfl
theorem ucur_low (U V k j : Nat) (h : j ≤ k) : ucur U V k % B ^ j = U % B ^ j := by
  unfold ucur
  obtain ⟨d, rfl⟩ : ∃ d, k = j + d := ⟨k - j, by omega⟩
  rw [show V * B ^ (j + d) = B ^ j * (V * B ^ d) by rw [Nat.pow_add, Nat.mul_left_comm]]
  exact Nat.mod_mul_right_mod _ _ _
theorem ucur_step (U V j : Nat) : ucur U V j = ucur U V (j + 1) % B ^ j + B ^ j * (ucur U V (j + 1) / B ^ j % V) := by
  rw [ucur_win, ucur_low U V (j + 1) j (by omega), Nat.mod_mul_right_mod]
  unfold ucur
  rw [Nat.mul_comm V]
  exact Nat.mod_mul
theorem ucur_self {U V m : Nat} (k : Nat) (h : U < V * B ^ m) (hk : m ≤ k) : ucur U V k = U :=
  Nat.mod_eq_of_lt (Nat.lt_of_lt_of_le h (Nat.mul_le_mul_left _ (Nat.pow_le_pow_right B_pos hk)))
theorem ucur_zero (U V : Nat) : ucur U V 0 = U % V := by unfold ucur; rw [Nat.pow_zero, Nat.mul_one]
end Go.Proofs.YtbnmgopobmiadaaGreatDoor

namespace Go.Proofs.YtbnmgopobmiadaaGreatDoor

theorem ucur_lt_pow {U V n : Nat} (k : Nat) (h0 : 0 < V) (hV : V < B ^ n) : ucur U V k < B ^ (n + k) := by
  rw [Nat.pow_add]
  exact Nat.lt_of_lt_of_le (ucur_lt k h0) (Nat.mul_le_mul_right _ (Nat.le_of_lt hV))
theorem ucur_out {U V n j i : Nat} (h0 : 0 < V) (hV : V < B ^ n) (h : i < j ∨ j + (n + 1) ≤ i) : dig (ucur U V j) i = dig (ucur U V (j + 1)) i := by
  rcases h with h | h
  · rw [← dig_mod (X := ucur U V j) h, ← dig_mod (X := ucur U V (j + 1)) h, ucur_low U V j j (Nat.le_refl _), ucur_low U V (j + 1) j (by omega)]
  · rw [dig_of_lt (Nat.lt_of_lt_of_le (ucur_lt_pow j h0 hV) (Nat.pow_le_pow_right B_pos (by omega))),
      dig_of_lt (Nat.lt_of_lt_of_le (ucur_lt_pow (j + 1) h0 hV) (Nat.pow_le_pow_right B_pos (by omega)))]
theorem ucur_in (U V j i : Nat) : dig (ucur U V j) (j + i) = dig (ucur U V (j + 1) / B ^ j % V) i := by
  rw [Nat.add_comm, ← dig_shift, ucur_step, Nat.add_mul_div_left _ _ (Bpow_pos j), Nat.div_eq_of_lt (Nat.mod_lt _ (Bpow_pos j)), Nat.zero_add]
theorem dig_add_pow (X n i : Nat) (h : i < n) : dig (X + B ^ n) i = dig X i := by
  rw [← dig_mod (X := X + B ^ n) h, ← dig_mod (X := X) h, Nat.add_mod_right]
theorem win_lt {U V n j : Nat} (h0 : 0 < V) (hV : V < B ^ n) : ucur U V (j + 1) / B ^ j < B ^ (n + 1) := by
  rw [Nat.div_lt_iff_lt_mul (Bpow_pos j), ← Nat.pow_add, show n + 1 + j = n + (j + 1) by omega]
  exact ucur_lt_pow (j + 1) h0 hV
theorem win_lt2 {U V j : Nat} (h0 : 0 < V) : ucur U V (j + 1) / B ^ j < V * B := by
  rw [ucur_win]; exact Nat.mod_lt _ (Nat.mul_pos h0 B_pos)

/-- the first guess was right -/
theorem sub_right {W V q n : Nat} (hq : q = W / V) : W + B ^ (n + 1) - (V * q + 0) = W % V + B ^ (n + 1) ∧ ¬ W < V * q + 0 := by
  have := Nat.mod_add_div W V
  rw [← hq] at this
  omega
/-- it was one too great -/
theorem sub_over {W V q n : Nat} (h0 : 0 < V) (hq : q = W / V + 1) (hY : V * q + 0 < B ^ (n + 1)) :
    W + B ^ (n + 1) - (V * q + 0) + V = W % V + B ^ (n + 1) ∧ W < V * q + 0 := by
  have h1 := Nat.mod_add_div W V
  have h2 := Nat.mod_lt W h0
  have h3 : V * q = V * (W / V) + V := by rw [hq, Nat.mul_add, Nat.mul_one]
  generalize W % V = r at *
  generalize V * (W / V) = P at *
  omega

theorem div_one_more (X i : Nat) : X / B ^ i = X / B ^ (i + 1) * B + dig X i := by
  have := Nat.mod_add_div (X / B ^ i) B
  rw [Nat.div_div_eq_div_mul, show B ^ i * B = B ^ (i + 1) from (Nat.pow_succ ..).symm] at this
  unfold dig; rw [Nat.mul_comm _ B]; omega
theorem div_two {X m : Nat} (h : X < B ^ (m + 2)) : X / B ^ m = dig X (m + 1) * B + dig X m := by
  rw [div_one_more X m, dig_top h]
theorem div_three {X m : Nat} (h : X < B ^ (m + 3)) : X / B ^ m = (dig X (m + 2) * B + dig X (m + 1)) * B + dig X m := by
  rw [div_one_more X m, div_two (m := m + 1) h]
theorem top_half {V n : Nat} (hn : 0 < n) (hV : B ^ n ≤ 2 * V) (hVn : V < B ^ n) : B ≤ 2 * dig V (n - 1) := by
  obtain ⟨k, rfl⟩ : ∃ k, n = k + 1 := ⟨n - 1, by omega⟩
  rw [Nat.add_sub_cancel, dig_top hVn]
  have h1 := Nat.lt_div_mul_add (a := V) (Bpow_pos k)
  generalize V / B ^ k = v at *
  rw [Nat.pow_succ, Nat.mul_comm] at hV
  have h2 : B * B ^ k < (2 * v + 2) * B ^ k := by
    have : (2 * v + 2) * B ^ k = 2 * (v * B ^ k + B ^ k) := by rw [Nat.add_mul, Nat.mul_assoc, Nat.mul_add]
    omega
  have h3 : B < 2 * v + 2 := Nat.lt_of_mul_lt_mul_right h2
  unfold B at *; omega
/-- the top word of the window is not above that of V -/
theorem top_le {W V n : Nat} (hn : 0 < n) (hVn : V < B ^ n) (hW : W < V * B) : dig W n ≤ dig V (n - 1) := by
  obtain ⟨k, rfl⟩ : ∃ k, n = k + 1 := ⟨n - 1, by omega⟩
  have hWn : W < B ^ (k + 1 + 1) := by
    rw [Nat.pow_succ]; exact Nat.lt_of_lt_of_le hW (Nat.mul_le_mul_right _ (Nat.le_of_lt hVn))
  rw [Nat.add_sub_cancel, dig_top hVn, dig_top hWn]
  refine Nat.le_of_lt_succ ?_
  rw [Nat.div_lt_iff_lt_mul (Bpow_pos _)]
  have h1 := Nat.lt_div_mul_add (a := V) (Bpow_pos k)
  refine Nat.lt_of_lt_of_le hW ?_
  rw [Nat.pow_succ, ← Nat.mul_assoc]
  refine Nat.mul_le_mul_right _ ?_
  rw [Nat.succ_mul]
  exact Nat.le_of_lt h1
/-- the three-by-two guess, in words -/
theorem guess_words {W V n q : Nat} (hn : 2 ≤ n) (hV : B ^ n ≤ 2 * V) (hVn : V < B ^ n) (hWn : W < B ^ (n + 1))
    (hq : q = ((dig W n * B + dig W (n - 1)) * B + dig W (n - 2)) / (dig V (n - 1) * B + dig V (n - 2))) (hqB : q < B) : W / V ≤ q ∧ q ≤ W / V + 1 := by
  have hv := top_half (by omega) hV hVn
  obtain ⟨k, rfl⟩ : ∃ k, n = k + 2 := ⟨n - 2, by omega⟩
  have e1 := div_two hVn
  have e2 := div_three (X := W) (m := k) hWn
  rw [show k + 2 - 1 = k + 1 by omega, show k + 2 - 2 = k by omega] at *
  rw [← e1, ← e2] at hq
  have hB := B_pos
  have h9 : B ≤ V / B ^ k := by
    rw [e1]
    have : 1 * B ≤ dig V (k + 1) * B := Nat.mul_le_mul_right _ (by omega)
    omega
  refine guess_whole (P := B ^ k) (low := W % B ^ k) (vlow := V % B ^ k) ?_ ?_ (Nat.mod_lt _ (Bpow_pos k)) (Nat.mod_lt _ (Bpow_pos k)) (by omega) (by omega) hq (by omega)
  · rw [Nat.mul_comm]; exact (Nat.div_add_mod _ _).symm
  · rw [Nat.mul_comm]; exact (Nat.div_add_mod _ _).symm
theorem guess_words_max {W V n : Nat} (hn : 2 ≤ n) (hV : B ^ n ≤ 2 * V) (hVn : V < B ^ n) (hWn : W < B ^ (n + 1)) (hW : W < V * B) (he : dig W n = dig V (n - 1)) : W / V ≤ B - 1 ∧ B - 1 ≤ W / V + 1 := by
  have hv := top_half (by omega) hV hVn
  obtain ⟨k, rfl⟩ : ∃ k, n = k + 1 := ⟨n - 1, by omega⟩
  rw [Nat.add_sub_cancel] at he hv
  rw [dig_top hVn] at he hv
  rw [dig_top hWn] at he
  refine guess_max (P := B ^ k) (ujn := V / B ^ k) (low := W % B ^ (k + 1)) (vlow := V % B ^ k) ?_ ?_ (Nat.mod_lt _ (Bpow_pos k)) hv hW
  · rw [← he, Nat.mul_assoc, Nat.mul_comm B, ← Nat.pow_succ, Nat.mul_comm]; exact (Nat.div_add_mod _ _).symm
  · rw [Nat.mul_comm]; exact (Nat.div_add_mod _ _).symm
theorem dvq_lt {hi lo y : Nat} (h : hi < y) (hlo : lo < B) : (hi * B + lo) / y < B := by
  rw [Nat.div_lt_iff_lt_mul (by omega)]
  have : (hi + 1) * B ≤ y * B := Nat.mul_le_mul_right _ h
  rw [Nat.add_mul, Nat.one_mul] at this
  rw [Nat.mul_comm B]; omega
end Go.Proofs.YtbnmgopobmiadaaGreatDoor

/- Lehmer's simulation: the arithmetic. -/
namespace Go.Proofs.YtbnmgopobmiadaaGreatDoor

/-- the state of the simulation of X, Y by their leading words a0 = X / S, b0 = Y / S; s is the sign -/
structure Leh (X Y S : Nat) (s : Int) (a1 a2 u1 u2 v1 v2 : Nat) : Prop where
  sg : s = 1 ∨ s = -1
  e1 : (a1 : Int) = s * (u1 * (X / S : Nat) - v1 * (Y / S : Nat))
  e2 : (a2 : Int) = s * (v2 * (Y / S : Nat) - u2 * (X / S : Nat))
  top : a1 * v2 + a2 * v1 = X / S
  le : a2 ≤ a1
  uv : u1 + u2 ≤ v1 + v2
  uv2 : u2 ≤ v2
  vv : v1 ≤ v2
  pos : 1 ≤ v2
  gcd : Int.gcd (s * (u1 * X - v1 * Y)) (s * (v2 * Y - u2 * X)) = Nat.gcd X Y

theorem Leh.start {X Y S : Nat} (h : Y ≤ X) : Leh X Y S 1 (X / S) (Y / S) 1 0 0 1 := by
  refine ⟨.inl rfl, by simp, by simp, by simp, Nat.div_le_div_right h, by omega, by omega, by omega, by omega, ?_⟩
  simp [Int.gcd]

/-- where the loop's test holds, the true remainders are in order -/
theorem Leh.good {X Y S : Nat} {s : Int} {a1 a2 u1 u2 v1 v2 : Nat} (h : Leh X Y S s a1 a2 u1 u2 v1 v2) (hS : 0 < S) (c1 : v2 ≤ a2) (c2 : v1 + v2 ≤ a1 - a2) :
    0 ≤ s * (v2 * Y - u2 * X : Int) ∧ s * (v2 * Y - u2 * X : Int) < s * (u1 * X - v1 * Y : Int) := by
  obtain ⟨sg, e1, e2, _, le, uv, uv2, _, pos, _⟩ := h
  have hX := Nat.div_add_mod X S
  have hY := Nat.div_add_mod Y S
  have hal := Nat.mod_lt X hS
  have hbe := Nat.mod_lt Y hS
  generalize X / S = a0 at *
  generalize Y / S = b0 at *
  generalize X % S = al at *
  generalize Y % S = be at *
  subst hX hY
  have m1 : u2 * al ≤ v2 * al := Nat.mul_le_mul_right al uv2
  have m2 : v2 * al ≤ v2 * S := Nat.mul_le_mul_left v2 (by omega)
  have m3 : v2 * be ≤ v2 * S := Nat.mul_le_mul_left v2 (by omega)
  have m4 : v2 * S ≤ a2 * S := Nat.mul_le_mul_right S c1
  obtain ⟨d, rfl⟩ : ∃ d, a1 = a2 + d := ⟨a1 - a2, by omega⟩
  have m5 : (v1 + v2) * S ≤ d * S := Nat.mul_le_mul_right S (by omega)
  have m6 : (v1 + v2) * be < (v1 + v2) * S := Nat.mul_lt_mul_of_pos_left hbe (by omega)
  have m7 : (u1 + u2) * al ≤ (v1 + v2) * al := Nat.mul_le_mul_right al uv
  have m8 : (v1 + v2) * al < (v1 + v2) * S := Nat.mul_lt_mul_of_pos_left hal (by omega)
  have g2 : s * (v2 * ((S * b0 + be : Nat) : Int) - u2 * ((S * a0 + al : Nat) : Int)) = a2 * S + s * (v2 * be - u2 * al) := by
    rw [e2]; grind
  have g1 : s * (u1 * ((S * a0 + al : Nat) : Int) - v1 * ((S * b0 + be : Nat) : Int)) = (a2 + d : Nat) * S + s * (u1 * al - v1 * be) := by
    rw [e1]; grind
  rw [g1, g2]
  simp only [Nat.add_mul] at m5 m6 m7 m8
  rw [Int.natCast_add, Int.add_mul]
  rcases sg with rfl | rfl
  · constructor <;> omega
  · constructor <;> omega

theorem gcd_step (a b q : Int) : Int.gcd b (a - q * b) = Int.gcd a b := by
  rw [Int.gcd_comm a b, Int.gcd_sub_mul_right_right]

theorem sgn_one (s u v X Y : Int) : s * (v * Y - u * X) = -s * (u * X - v * Y) := by
  rw [Int.neg_mul, ← Int.mul_neg, Int.neg_sub]
theorem sgn_two (s u1 u2 v1 v2 X Y q : Int) : s * (u1 * X - v1 * Y) - q * (-s * (u2 * X - v2 * Y)) = -s * ((v1 + q * v2) * Y - (u1 + q * u2) * X) := by grind

/-- one round -/
theorem Leh.step {X Y S : Nat} {s : Int} {a1 a2 u1 u2 v1 v2 : Nat} (h : Leh X Y S s a1 a2 u1 u2 v1 v2) (c1 : v2 ≤ a2) :
    Leh X Y S (-s) a2 (a1 % a2) u2 (u1 + a1 / a2 * u2) v2 (v1 + a1 / a2 * v2) := by
  obtain ⟨sg, e1, e2, top, le, uv, uv2, vv, pos, gcd⟩ := h
  have ha : 0 < a2 := by omega
  have hd := Nat.div_add_mod a1 a2
  have hq : 1 ≤ a1 / a2 := (Nat.one_le_div_iff ha).2 le
  have hr := Nat.mod_lt a1 ha
  generalize a1 / a2 = q at *
  generalize a1 % a2 = r at *
  obtain ⟨p, rfl⟩ : ∃ p, q = p + 1 := ⟨q - 1, by omega⟩
  have m1 : p * u2 ≤ p * v2 := Nat.mul_le_mul_left p uv2
  have he : (r : Int) = a1 - (p + 1 : Nat) * a2 := by
    rw [← hd, Int.natCast_add, Int.natCast_mul]; grind
  have j1 : ((u1 + (p + 1) * u2 : Nat) : Int) = u1 + ((p + 1 : Nat) : Int) * u2 := by rw [Int.natCast_add, Int.natCast_mul]
  have j2 : ((v1 + (p + 1) * v2 : Nat) : Int) = v1 + ((p + 1 : Nat) : Int) * v2 := by rw [Int.natCast_add, Int.natCast_mul]
  have k1 : u1 + (p + 1) * u2 = u1 + u2 + p * u2 := by rw [Nat.add_mul]; omega
  have k2 : v1 + (p + 1) * v2 = v1 + v2 + p * v2 := by rw [Nat.add_mul]; omega
  refine ⟨by omega, ?_, ?_, ?_, by omega, by omega, by omega, by omega, by omega, ?_⟩
  · rw [e2, sgn_one]
  · rw [he, e1, e2, j1, j2, sgn_one s (u2 : Int) v2, sgn_two]
  · rw [← top, ← hd]; grind
  · rw [j1, j2, ← gcd, ← sgn_two, ← sgn_one, gcd_step]

theorem Leh.v_le {X Y S : Nat} {s : Int} {a1 a2 u1 u2 v1 v2 : Nat} (h : Leh X Y S s a1 a2 u1 u2 v1 v2) (h2 : 0 < a1) : v2 ≤ X / S := by
  rw [← h.top]
  have := Nat.le_mul_of_pos_left v2 h2
  omega
theorem Leh.vs_le {X Y S : Nat} {s : Int} {a1 a2 u1 u2 v1 v2 : Nat} (h : Leh X Y S s a1 a2 u1 u2 v1 v2) (h2 : 0 < a2) : v1 + v2 ≤ X / S := by
  rw [← h.top]
  have := Nat.le_mul_of_pos_left v2 (show 0 < a1 by have := h.le; omega)
  have := Nat.le_mul_of_pos_left v1 h2
  omega

/-- what the simulation hands back: two numbers to go on with -/
def LehOut (X Y : Nat) (even : Bool) (u0 u1 v0 v1 : Nat) : Prop :=
  1 ≤ v1 ∧ ∃ X' Y' : Nat, Y' < X' ∧ X' ≤ Y ∧ Nat.gcd X' Y' = Nat.gcd X Y ∧
    (X' : Int) = (if even then 1 else -1) * (u0 * X - v0 * Y) ∧ (Y' : Int) = (if even then 1 else -1) * (v1 * Y - u1 * X)

theorem LehOut.u1 {X Y : Nat} {even : Bool} {u0 u1 v0 v1 : Nat} (h : LehOut X Y even u0 u1 v0 v1) : u1 ≠ 0 := by
  obtain ⟨h1, X', Y', h2, h3, _, _, h4⟩ := h
  rintro rfl
  have hm : 1 * Y ≤ v1 * Y := Nat.mul_le_mul_right Y h1
  cases even
  · simp at h4; omega
  · simp at h4; omega

def sgn (even : Bool) : Int := if even then -1 else 1

/-- the loop's relation -/
structure LehI (X Y S : Nat) (even : Bool) (a1 a2 u0 u1 u2 v0 v1 v2 : Nat) : Prop where
  leh : Leh X Y S (sgn even) a1 a2 u1 u2 v1 v2
  out : v0 = 0 ∨ LehOut X Y even u0 u1 v0 v1
  fst : v1 = 0 ∨ sgn even * (u1 * X - v1 * Y : Int) ≤ Y
  fst0 : v1 = 0 → u1 = 1 ∧ even = false ∧ u2 = 0 ∧ v2 = 1

theorem LehI.start {X Y S : Nat} (h : Y ≤ X) : LehI X Y S false (X / S) (Y / S) 0 1 0 0 0 1 :=
  ⟨Leh.start h, .inl rfl, .inl rfl, fun _ => ⟨rfl, rfl, rfl, rfl⟩⟩

theorem LehI.step {X Y S : Nat} {even : Bool} {a1 a2 u0 u1 u2 v0 v1 v2 : Nat} (h : LehI X Y S even a1 a2 u0 u1 u2 v0 v1 v2) (hS : 0 < S) (c1 : v2 ≤ a2) (c2 : v1 + v2 ≤ a1 - a2) :
    LehI X Y S (!even) a2 (a1 % a2) u1 u2 (u1 + a1 / a2 * u2) v1 v2 (v1 + a1 / a2 * v2) := by
  obtain ⟨leh, out, fst, fst0⟩ := h
  have hg := leh.good hS c1 c2
  have hs : sgn (!even) = - sgn even := by cases even <;> rfl
  have hgcd := leh.gcd
  refine ⟨by rw [hs]; exact leh.step c1, ?_, ?_, fun h => by have := leh.pos; omega⟩
  · by_cases hv : v1 = 0
    · exact .inl hv
    · refine .inr ?_
      have hY : sgn even * (u1 * X - v1 * Y : Int) ≤ Y := fst.resolve_left hv
      obtain ⟨x', hx'⟩ : ∃ x', x' = sgn even * (u1 * X - v1 * Y : Int) := ⟨_, rfl⟩
      obtain ⟨y', hy'⟩ : ∃ y', y' = sgn even * (v2 * Y - u2 * X : Int) := ⟨_, rfl⟩
      rw [← hx', ← hy'] at hg hgcd
      rw [← hx'] at hY
      refine ⟨leh.pos, x'.toNat, y'.toNat, by omega, by omega, ?_, ?_, ?_⟩
      · rw [← hgcd, show x'.toNat = x'.natAbs by omega, show y'.toNat = y'.natAbs by omega]; rfl
      · rw [Int.toNat_of_nonneg (by omega), hx']; cases even <;> simp [sgn]
      · rw [Int.toNat_of_nonneg (by omega), hy']; cases even <;> simp [sgn] 
  · refine .inr ?_
    rw [hs]
    by_cases hv : v1 = 0
    · obtain ⟨rfl, rfl, rfl, rfl⟩ := fst0 hv
      simp [sgn]
    · have hY := fst.resolve_left hv
      have : (-sgn even) * (u2 * X - v2 * Y : Int) = sgn even * (v2 * Y - u2 * X : Int) := by grind
      rw [this]; omega
end Go.Proofs.YtbnmgopobmiadaaGreatDoor

/- The leading words: arithmetic of lehmerSimulate. -/
namespace Go.Proofs.YtbnmgopobmiadaaGreatDoor

theorem lead_word {X n h : Nat} (hn : 2 ≤ n) (hX : X < B ^ n) (hh : h ≤ 64) : X / (B ^ (n - 2) * 2 ^ (64 - h)) = dig X (n - 1) * 2 ^ h + dig X (n - 2) / 2 ^ (64 - h) := by
  obtain ⟨k, rfl⟩ : ∃ k, n = k + 2 := ⟨n - 2, by omega⟩
  rw [Nat.add_sub_cancel, show k + 2 - 1 = k + 1 by omega, ← Nat.div_div_eq_div_mul, div_two hX]
  have hB : B = 2 ^ (64 - h) * 2 ^ h := by rw [B_split hh, Nat.mul_comm]
  have h1 : dig X (k + 1) * B = 2 ^ (64 - h) * (dig X (k + 1) * 2 ^ h) := by rw [hB, Nat.mul_left_comm]
  rw [h1, Nat.mul_add_div (Nat.two_pow_pos _)]
theorem lead_lt {t d h : Nat} (hh : h ≤ 64) (ht : t * 2 ^ h < B) (hd : d < B) : t * 2 ^ h + d / 2 ^ (64 - h) < B := by
  have hB : B = 2 ^ (64 - h) * 2 ^ h := by rw [B_split hh, Nat.mul_comm]
  have h1 : t < 2 ^ (64 - h) := by
    refine Nat.lt_of_mul_lt_mul_right (a := 2 ^ h) ?_
    rw [← hB]; exact ht
  have h2 : (t + 1) * 2 ^ h ≤ 2 ^ (64 - h) * 2 ^ h := Nat.mul_le_mul_right _ h1
  have h3 : d / 2 ^ (64 - h) < 2 ^ h := (Nat.div_lt_iff_lt_mul (Nat.two_pow_pos _)).2 (by rw [Nat.mul_comm, ← hB]; exact hd)
  rw [Nat.add_mul] at h2
  omega
theorem lead_pos (n h : Nat) : 0 < B ^ (n - 2) * 2 ^ (64 - h) := Nat.mul_pos (Bpow_pos _) (Nat.two_pow_pos _)
theorem top_word_le {X Y n : Nat} (hn : 0 < n) (hX : X < B ^ n) (h : Y ≤ X) : dig Y (n - 1) ≤ dig X (n - 1) := by
  obtain ⟨k, rfl⟩ : ∃ k, n = k + 1 := ⟨n - 1, by omega⟩
  rw [Nat.add_sub_cancel, dig_top hX, dig_top (Nat.lt_of_le_of_lt h hX)]
  exact Nat.div_le_div_right h
end Go.Proofs.YtbnmgopobmiadaaGreatDoor

/- The bits of an exponent: arithmetic of expNN. -/
namespace Go.Proofs.YtbnmgopobmiadaaGreatDoor

/-- the topmost bit of the shifted exponent is the next bit -/
theorem exp_bit {y w j : Nat} (hj : j < w) (hw : w < 64) : y * 2 ^ (64 - w + j) % 2 ^ 64 / 2 ^ 63 = y / 2 ^ (w - j - 1) % 2 := by
  rw [show (2 : Nat) ^ 64 = 2 ^ 63 * 2 from rfl, Nat.mod_mul_right_div_self]
  congr 1
  have h : (2 : Nat) ^ 63 = 2 ^ (w - j - 1) * 2 ^ (64 - w + j) := by rw [← Nat.pow_add]; congr 1; omega
  rw [h, Nat.mul_div_mul_right _ _ (Nat.two_pow_pos _)]
/-- the exponent so far -/
theorem exp_step {y w j : Nat} (hj : j < w) : y / 2 ^ (w - (j + 1)) = 2 * (y / 2 ^ (w - j)) + y / 2 ^ (w - j - 1) % 2 := by
  rw [show w - j = w - j - 1 + 1 by omega, Nat.pow_succ, ← Nat.div_div_eq_div_mul, show w - (j + 1) = w - j - 1 by omega, show w - j - 1 + 1 - 1 = w - j - 1 by omega]
  have := Nat.div_add_mod (y / 2 ^ (w - j - 1)) 2
  omega
theorem exp_pow (x e b : Nat) : x ^ (2 * e + b) = x ^ e * x ^ e * x ^ b := by rw [Nat.pow_add, Nat.two_mul, Nat.pow_add]
end Go.Proofs.YtbnmgopobmiadaaGreatDoor

/- The plain law of multiples: fractions X/x of natural numbers. -/
namespace Go.Proofs.YtbnmgopobmiadaaGreatDoor

theorem gcd_ne_right {P Q : Nat} (hQ : Q ≠ 0) : Nat.gcd P Q ≠ 0 := fun h => hQ (Nat.eq_zero_of_gcd_eq_zero_right h)
/-- a quotient is whole -/
theorem div_gcd_one {P Q : Nat} (hQ : Q ≠ 0) : Q / Nat.gcd P Q = 1 ↔ Q ∣ P := by
  have hg : 0 < Nat.gcd P Q := Nat.pos_of_ne_zero (gcd_ne_right hQ)
  constructor
  · intro h
    have h1 := Nat.div_mul_cancel (Nat.gcd_dvd_right P Q)
    rw [h, Nat.one_mul] at h1
    have h2 := Nat.gcd_dvd_left P Q
    rwa [h1] at h2
  · intro h
    rw [Nat.gcd_eq_right h, Nat.div_self (by omega)]
/-- X/x is a whole number times Y/y -/
def mulB (X x Y y : Nat) : Bool := decide (Y * x / Nat.gcd (X * y) (Y * x) = 1)
theorem mulB_iff {X x Y y : Nat} (hY : Y ≠ 0) (hx : x ≠ 0) : mulB X x Y y = true ↔ Y * x ∣ X * y := by
  rw [mulB, decide_eq_true_iff, div_gcd_one (Nat.mul_ne_zero hY hx)]
theorem mulB_own {X x : Nat} (hX : X ≠ 0) (hx : x ≠ 0) : mulB X x X x = true := (mulB_iff hX hx).2 (Nat.dvd_refl _)
theorem mulB_chain {X x Y y Z z : Nat} (hY : Y ≠ 0) (hy : y ≠ 0) (hx : x ≠ 0) (hZ : Z ≠ 0) (h1 : mulB X x Y y = true) (h2 : mulB Y y Z z = true) : mulB X x Z z = true := by
  rw [mulB_iff hY hx] at h1
  rw [mulB_iff hZ hy] at h2
  rw [mulB_iff hZ hx]
  obtain ⟨k, hk⟩ := h1
  obtain ⟨l, hl⟩ := h2
  refine ⟨k * l, ?_⟩
  have hp : 0 < y * Y := Nat.mul_pos (Nat.pos_of_ne_zero hy) (Nat.pos_of_ne_zero hY)
  refine Nat.eq_of_mul_eq_mul_right hp ?_
  calc X * z * (y * Y) = (X * y) * (Y * z) := by ac_rfl
    _ = (Y * x * k) * (Z * y * l) := by rw [hk, hl]
    _ = Z * x * (k * l) * (y * Y) := by ac_rfl
theorem mulB_one {X x : Nat} (hx : x ≠ 0) (hc : Nat.gcd X x = 1) : mulB X x 1 1 = decide (x = 1) := by
  rw [Bool.eq_iff_iff, mulB_iff (by omega) hx, decide_eq_true_iff, Nat.one_mul, Nat.mul_one]
  constructor
  · intro h; rw [Nat.gcd_eq_right h] at hc; exact hc
  · intro h; rw [h]; exact Nat.one_dvd _
end Go.Proofs.YtbnmgopobmiadaaGreatDoor
