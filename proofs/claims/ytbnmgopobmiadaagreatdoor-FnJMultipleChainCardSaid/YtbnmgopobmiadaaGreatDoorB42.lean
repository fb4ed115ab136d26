/- expNN at 5 to the n, n from 1 to 200, without a modulus. -/
import Derived.Test.YtbnmgopobmiadaaGreatDoorA1
import Derived.Test.YtbnmgopobmiadaaGreatDoorB9
import Derived.Test.YtbnmgopobmiadaaGreatDoorB10
import Derived.Deep.LoopGhost

set_option linter.unusedSimpArgs false
set_option linter.unusedVariables false


namespace Go.Proofs.YtbnmgopobmiadaaGreatDoor
open Go.RowKit

theorem norm_nv {v : Value} {X : Nat} {w : World} (h : Nv w v X) : Calls Tryz.prog 73 #[v] w fun e w' => e = .returned v ∧ w = w' := by
  rcases h with ⟨rfl, _⟩ | ⟨b, cap, rfl, h1, h2, h3, h4⟩
  · exact norm_nil w
  · exact norm_any b 0 (wlen X) cap X w h1 h2 (lt_wlen X) h4
theorem five_pow_lt {e : Nat} (h : e ≤ 200) : wlen (5 ^ e) ≤ 8 := by
  refine wlen_le (Nat.lt_of_le_of_lt (Nat.pow_le_pow_right (by omega) h) ?_)
  unfold B; decide
theorem five_pow_ne (e : Nat) : 5 ^ e ≠ 0 := Nat.pos_iff_ne_zero.1 (Nat.pow_pos (by omega))
theorem top_bit {v : Nat} (hv : v < B) : bits .and .u64 (v : Int) 9223372036854775808 = ((v / 2 ^ 63 * 2 ^ 63 : Nat) : Int) := by
  have h := bits_and_u64_nat v 9223372036854775808 hv (by omega)
  rw [show ((9223372036854775808 : Nat) : Int) = 9223372036854775808 from rfl] at h
  rw [h]
  congr 1
  have e : (9223372036854775808 : Nat) = 2 ^ 63 := by decide
  rw [e]
  have hlt : v / 2 ^ 63 < 2 := by
    rw [Nat.div_lt_iff_lt_mul (Nat.two_pow_pos _)]; unfold B at hv; omega
  refine Nat.eq_of_testBit_eq fun i => ?_
  rw [Nat.testBit_and, Nat.testBit_two_pow, Nat.testBit_mul_two_pow, Nat.testBit_div_two_pow]
  by_cases hi : 63 = i
  · subst hi; simp
  · have h1 : decide (63 = i) = false := decide_eq_false hi
    rw [h1, Bool.and_false]
    by_cases h2 : 63 ≤ i
    · have : v.testBit (63 + (i - 63)) = false := by
        refine Nat.testBit_lt_two_pow ?_
        have h3 : (2 : Nat) ^ 64 ≤ 2 ^ (63 + (i - 63)) := Nat.pow_le_pow_right (by omega) (by omega)
        have h4 : (2 : Nat) ^ 64 = B := rfl
        omega
      simp only [Nat.add_comm 63] at this
      simp [this]
    · simp [h2]

/-- expNN's loop -/
def XL (n W : Nat) (w : World) (k : Nat) (s0 s15 s19 s21 : Value) (wr : World) : Prop :=
  ∃ (j V : Nat) (zv zz : Value), zv = s0 ∧ zz = s19 ∧ j ≤ W ∧ W - j ≤ k ∧ Nv wr zv (5 ^ (n / 2 ^ (W - j))) ∧ St wr zz ∧ (∀ k, zv.ownBlock = some k → w.heap.size ≤ k) ∧ (∀ k, zz.ownBlock = some k → w.heap.size ≤ k) ∧ Off (fun k => zz.ownBlock = some k) zv ∧
    s15 = .int .u64 (V : Nat) ∧ V = n * 2 ^ (64 - W + j) % B ∧ s21 = .int .i64 j ∧ Chg (fun _ => False) w wr

/-- what expNN hands back -/
def Powed (n : Nat) (w : World) (e : Ending) (w' : World) : Prop := ∃ v, e = .returned v ∧ Nv w' v (5 ^ n) ∧ Chg (fun _ => False) w w' ∧ ∀ k, v.ownBlock = some k → w.heap.size ≤ k
theorem Powed.of {n X : Nat} {w w' : World} {v : Value} {e : Ending} (he : e = .returned v) (h1 : Nv w' v X) (hX : X = 5 ^ n) (h2 : Chg (fun _ => False) w w') (h3 : ∀ k, v.ownBlock = some k → w.heap.size ≤ k) : Powed n w e w' := ⟨v, he, hX ▸ h1, h2, h3⟩

theorem nlz_exp {n : Nat} (h1 : 2 ≤ n) (h2 : n ≤ 200) : ∃ W, nlzN n = 63 - W ∧ 1 ≤ W ∧ W ≤ 7 ∧ n / 2 ^ W = 1 := by
  obtain ⟨a, b, c⟩ := nlzN_spec (x := n) (by omega) (by unfold B; omega)
  generalize nlzN n = z at *
  have hB : B = 2 ^ 64 := B_eq
  have hz : 56 ≤ z := by
    refine Nat.le_of_not_lt fun h => ?_
    have h3 : 2 ^ z ≤ 2 ^ 55 := Nat.pow_le_pow_right (by omega) (by omega)
    have h4 : n * 2 ^ z ≤ 200 * 2 ^ 55 := Nat.mul_le_mul h2 h3
    have h5 : (2 : Nat) ^ 64 = 512 * 2 ^ 55 := by decide
    have h6 : 0 < (2 : Nat) ^ 55 := Nat.two_pow_pos _
    omega
  have hz2 : z ≤ 62 := by
    refine Nat.le_of_not_lt fun h => ?_
    have h3 : 2 ^ 63 ≤ 2 ^ z := Nat.pow_le_pow_right (by omega) (by omega)
    have h4 : 2 * 2 ^ 63 ≤ n * 2 ^ z := Nat.mul_le_mul h1 h3
    have h5 : (2 : Nat) ^ 64 = 2 * 2 ^ 63 := by decide
    omega
  refine ⟨63 - z, by omega, by omega, by omega, ?_⟩
  have e : (2 : Nat) ^ 63 = 2 ^ (63 - z) * 2 ^ z := by rw [← Nat.pow_add]; congr 1; omega
  have hp : 0 < (2 : Nat) ^ z := Nat.two_pow_pos _
  have h63 : (2 : Nat) ^ 64 = 2 * 2 ^ 63 := by decide
  have l1 : 2 ^ (63 - z) ≤ n := by
    refine Nat.le_of_mul_le_mul_right (c := 2 ^ z) ?_ hp
    rw [← e]; omega
  have l2 : n < 2 * 2 ^ (63 - z) := by
    refine Nat.lt_of_mul_lt_mul_right (a := 2 ^ z) ?_
    rw [Nat.mul_assoc, ← e]; omega
  have := Nat.div_mul_le_self n (2 ^ (63 - z))
  have h7 : n / 2 ^ (63 - z) < 2 := by rw [Nat.div_lt_iff_lt_mul (Nat.two_pow_pos _)]; exact l2
  have h8 : 1 ≤ n / 2 ^ (63 - z) := by rw [Nat.le_div_iff_mul_le (Nat.two_pow_pos _)]; omega
  omega

set_option maxHeartbeats 4000000 in
set_option maxRecDepth 100000 in
theorem expNN_one (a : Addr) (x y : Value) (w : World) (hx : Nv w x 5) (hy : Nv w y 1) :
    Calls Tryz.prog 44 #[.slice none 0 0, .pointer (some a), x, y, .slice none 0 0, .bool false] w (Powed 1 w) := by
  have hset := fun k => set_any (.slice none 0 0) x 5 (w.drewN k) (.inl rfl) hx (by rw [wlen_one (by omega) (by unfold B; omega)]; omega) (fun _ _ h => by simp [Value.ownBlock] at h)
  obtain ⟨xb, xc, rfl, x1, x2, x3, x4⟩ := hx.pos (by omega)
  obtain ⟨yb, yc, rfl, y1, y2, y3, y4⟩ := hy.pos (by omega)
  have hx0 := x4 0 (by rw [wlen_one (by omega) (by unfold B; omega)]; omega)
  have hy0 := y4 0 (by rw [wlen_one (by omega) (by unfold B; omega)]; omega)
  rw [wlen_one (by omega) (by unfold B; omega)] at *
  rw [wlen_one (by omega) (by unfold B; omega)] at *
  rw [wd, dig_zero, Nat.mod_eq_of_lt (by unfold B; omega), Nat.zero_add] at hx0 hy0
  have HS := Lib.hid hset
  clear hset x1 x2 x3 x4 y1 y2 y3 y4 hx hy
  go_enter_defers Tryz.func44, Tryz.ntmps44
  go_wp2_with fail
  refine (alias_zero _ _ _ _).mono ?_
  rintro e w1 ⟨rfl, nd, rfl⟩
  go_wp2_with fail
  refine (alias_zero _ _ _ _).mono ?_
  rintro e w1 ⟨rfl, nd2, rfl⟩
  have HS2 := HS.out (nd + nd2)
  clear HS
  go_wp2_with fail
  refine HS2.mono ?_
  rintro e w2 ⟨v, rfl, hv, hc, ho⟩
  have ho2 : ∀ k, v.ownBlock = some k → w.heap.size ≤ k := fun k hk => by
    rcases ho k hk with h | h
    · simp [Value.ownBlock] at h
    · have h2 : k = w.heap.size := h
      omega
  have HP : Hid (Powed 1 w (.returned v) w2) := Lib.hid (Powed.of rfl hv rfl (hc.undrewN.mono (fun k _ h => by simp [Value.ownBlock] at h)) ho2)
  clear ho2
  clear hv hc ho HS2
  go_wp2
  refine ⟨_, results_tmp rfl _ _ _, ?_⟩
  exact HP.out

theorem exp_word {n W j V : Nat} (hV : V = n * 2 ^ (64 - W + j) % B) : V * 2 % B = n * 2 ^ (64 - W + (j + 1)) % B := by
  rw [hV, Nat.mod_mul_mod, ← Nat.add_assoc, Nat.pow_succ, Nat.mul_assoc]
theorem exp_top {n W j V : Nat} (hj : j < W) (hW : W ≤ 7) (hV : V = n * 2 ^ (64 - W + j) % B) : V < B ∧ V / 2 ^ 63 = n / 2 ^ (W - j - 1) % 2 := by
  refine ⟨hV ▸ Nat.mod_lt _ B_pos, ?_⟩
  rw [hV, B_eq]; exact exp_bit hj (by omega)
/-- a square is done, and the product that may follow it -/
theorem XL.step {n W j V' : Nat} {w wr w3 w4 : World} {zz v1 v2 : Value} {S : Nat → Prop} (hj : j < W) (hozz : ∀ k, zz.ownBlock = some k → w.heap.size ≤ k) (hch : Chg (fun _ => False) w wr) (h2 : Chg (fun k => zz.ownBlock = some k) wr w3) (h4 : Chg S w3 w4) (hS : ∀ k, S k → w.heap.size ≤ k)
    (hv2 : Nv w4 v2 (5 ^ (n / 2 ^ (W - (j + 1))))) (hz2 : St w4 v1) (ho2 : ∀ k, v2.ownBlock = some k → w.heap.size ≤ k) (ho1 : ∀ k, v1.ownBlock = some k → w.heap.size ≤ k) (hoff2 : Off (fun k => v1.ownBlock = some k) v2)
    (hV' : V' = n * 2 ^ (64 - W + (j + 1)) % B) : XL n W w (W - (j + 1)) v2 (.int .u64 (V' : Nat)) v1 (.int .i64 ((j : Int) + 1)) w4 := by
  refine ⟨j + 1, V', v2, v1, rfl, rfl, hj, Nat.le_refl _, hv2, hz2, ho2, ho1, hoff2, rfl, hV', rfl, ?_⟩
  have hs := hch.size
  have c3 : Chg (fun _ => False) w w3 := hch.trans h2 (fun _ h => h) (fun k hk h => by have := hozz k h; omega)
  exact c3.trans h4 (fun _ h => h) (fun k hk h => by have := hS k h; omega)
theorem XL.step0 {n W j V' : Nat} {w wr w3 : World} {zv zz v1 : Value} (hj : j < W) (hoz : ∀ k, zv.ownBlock = some k → w.heap.size ≤ k) (hozz : ∀ k, zz.ownBlock = some k → w.heap.size ≤ k)
    (hch : Chg (fun _ => False) w wr) (h2 : Chg (fun k => zz.ownBlock = some k) wr w3)
    (hv2 : Nv w3 v1 (5 ^ (n / 2 ^ (W - (j + 1))))) (hz2 : St w3 zv) (ho1 : ∀ k, v1.ownBlock = some k → w.heap.size ≤ k) (hoff2 : Off (fun k => zv.ownBlock = some k) v1)
    (hV' : V' = n * 2 ^ (64 - W + (j + 1)) % B) : XL n W w (W - (j + 1)) v1 (.int .u64 (V' : Nat)) zv (.int .i64 ((j : Int) + 1)) w3 :=
  XL.step hj hozz hch h2 (Chg.refl (fun _ => False) w3) (fun _ h => h.elim) hv2 hz2 ho1 hoz hoff2 hV'

set_option maxHeartbeats 8000000 in
set_option maxRecDepth 100000 in
theorem expNN_more (a : Addr) (x y : Value) (n : Nat) (w : World) (hx : Nv w x 5) (hy : Nv w y n) (hn1 : 2 ≤ n) (hn2 : n ≤ 200)
    (hG3 : w.cell? ⟨3, 0, none⟩ = some (.int .i64 40)) (hG4 : w.cell? ⟨4, 0, none⟩ = some (.int .i64 12)) (hG5 : w.cell? ⟨5, 0, none⟩ = some (.int .i64 80)) :
    Calls Tryz.prog 44 #[.slice none 0 0, .pointer (some a), x, y, .slice none 0 0, .bool false] w (Powed n w) := by
  have hl5 : wlen 5 = 1 := wlen_one (by omega) (by unfold B; omega)
  have hln : wlen n = 1 := wlen_one (by omega) (by unfold B; omega)
  have hset := fun k => set_any (.slice none 0 0) x 5 (w.drewN k) (.inl rfl) hx (by omega) (fun _ _ h => by simp [Value.ownBlock] at h)
  have HX := Lib.hid (And.intro hx (And.intro hy (And.intro hG3 (And.intro hG4 (And.intro hG5 (And.intro hn1 hn2))))))
  obtain ⟨xb, xc, rfl, x1, x2, x3, x4⟩ := hx.pos (by omega)
  obtain ⟨yb, yc, rfl, y1, y2, y3, y4⟩ := hy.pos (by omega)
  have hx0 := x4 0 (by omega)
  have hy0 := y4 0 (by omega)
  have hyl := y3.lt
  rw [hl5] at hset HX ⊢
  rw [hln] at HX ⊢
  rw [wd, dig_zero, Nat.mod_eq_of_lt (by unfold B; omega), Nat.zero_add] at hx0 hy0
  obtain ⟨W, hW, hW1, hW7, hWn⟩ := nlz_exp hn1 hn2
  have hnz := fun w' => nlz n w' (by unfold B; omega)
  have e5 : ((n : Int) == 1) = false := beq_eq_false_iff_ne.2 (by omega)
  have HS := Lib.hid hset
  have HZ := Lib.hid hnz
  have HW := Lib.hid (And.intro hW hWn)
  clear hset x1 x2 x3 x4 y1 y2 y3 y4 hx hy hnz hW hWn hl5 hln hG3 hG4 hG5 hn1 hn2
  go_enter_defers Tryz.func44, Tryz.ntmps44
  go_wp2_with fail
  refine (alias_zero _ _ _ _).mono ?_
  rintro e w1 ⟨rfl, nd, rfl⟩
  go_wp2_with fail
  refine (alias_zero _ _ _ _).mono ?_
  rintro e w1 ⟨rfl, nd2, rfl⟩
  have HS2 := HS.out (nd + nd2)
  clear HS
  go_wp2_with fail
  refine HS2.mono ?_
  rintro e w2 ⟨v, rfl, hv, hc, ho⟩
  have c2 : Chg (fun _ => False) w w2 := hc.undrewN.mono (fun k _ h => by simp [Value.ownBlock] at h)
  have hy2 := c2.cell hy0 (fun h => h)
  have ho2 : ∀ k, v.ownBlock = some k → w.heap.size ≤ k := fun k hk => by
    rcases ho k hk with h | h
    · simp [Value.ownBlock] at h
    · have h2 : k = w.heap.size := h
      omega
  have HV := Lib.hid (And.intro hv (And.intro c2 ho2))
  clear hv hc ho c2 ho2 HS2 hy0 hx0
  go_wp2_with fail
  refine (HZ.out _).mono ?_
  rintro e w' ⟨rfl, rfl⟩
  rw [HW.out.1]
  obtain ⟨sh, hsh⟩ : ∃ sh, sh = 63 - W := ⟨_, rfl⟩
  rw [← hsh]
  have b1 : 56 ≤ sh := by omega
  have b2 : sh ≤ 62 := by omega
  have HSH := Lib.hid hsh
  clear hsh
  go_wp2
  go_loopg [0, 15, 19, 21] W (fun k s0 s15 s19 s21 wr => XL n W w k s0 s15 s19 s21 wr)
  case atStart =>
    obtain ⟨hv, c2, ho2⟩ := HV.out
    refine ⟨0, _, _, _, rfl, rfl, Nat.zero_le _, by omega, ?_, .inl rfl, ho2, fun k hk => by simp [Value.ownBlock] at hk, fun k _ hk => by simp [Value.ownBlock] at hk, by rw [wrap_shl], ?_, rfl, c2⟩
    · rw [Nat.sub_zero, HW.out.2]; exact hv
    · rw [HSH.out]; congr 3; omega
  case round =>
    obtain ⟨j, V, zv, zz, rfl, rfl, hj, hk, hz, hzz, hoz, hozz, hoff, rfl, hV, rfl, hch⟩ := hrel
    by_cases hlt : j < W
    · have l1 : (j : Int) < 64 - ((sh : Int) + 1) := by have := HSH.out; omega
      obtain ⟨hx, hy, hG3, hG4, hG5, hn1, hn2⟩ := HX.out
      have hle : n / 2 ^ (W - j) ≤ 200 := Nat.le_trans (Nat.div_le_self _ _) hn2
      have hl8 := five_pow_lt hle
      have hne := five_pow_ne (n / 2 ^ (W - j))
      have hsq := sqr_any zz (.pointer (some a)) zv (5 ^ (n / 2 ^ (W - j))) wr hzz hz hne (by omega) hoff (hch.cell hG4 (fun h => h)) (hch.cell hG5 (fun h => h))
      have HR := Lib.hid (And.intro hz (And.intro hzz (And.intro hoz (And.intro hozz (And.intro hoff (And.intro hch (And.intro hV hle)))))))
      clear hz hzz hoz hozz hoff hch hV hle hl8 hne hx hy hG3 hG4 hG5
      have HQ := Lib.hid hsq
      clear hsq
      go_wp2_with fail
      refine HQ.out.mono ?_
      rintro e w3 ⟨v1, rfl, h1, h2, h3⟩
      obtain ⟨hz, hzz, hoz, hozz, hoff, hch, hV, hle⟩ := HR.out
      have hs1 := hch.size
      have c3 : Chg (fun _ => False) w w3 := hch.trans h2 (fun _ h => h) (fun k hk h => by have := hozz k h; omega)
      have hz3 := hz.keep h2 hoff
      have ho1 : ∀ k, v1.ownBlock = some k → w.heap.size ≤ k := fun k hk => (h3 k hk).elim (fun h => hozz k h) (fun h => by omega)
      have hoff1 : Off (fun k => zv.ownBlock = some k) v1 := fun k hk h => by
        rcases h3 k hk with h4 | h4
        · exact hoff k h h4
        · have := hz.lt k h; omega
      obtain ⟨hVB, hb⟩ := exp_top hlt hW7 hV
      have hst := exp_step (y := n) hlt
      have hpw := exp_pow 5 (n / 2 ^ (W - j)) (n / 2 ^ (W - j - 1) % 2)
      rw [← hst] at hpw
      have hV2 := exp_word hV
      have ht := top_bit hVB
      rw [hb] at ht
      have hw2 : IntKind.u64.wrap ((V : Int) * 2) = ((V * 2 % B : Nat) : Int) := by have := wrap_shl V 1; rwa [Nat.pow_one, Int.pow_succ, Int.pow_zero, Int.one_mul] at this
      rcases Nat.mod_two_eq_zero_or_one (n / 2 ^ (W - j - 1)) with hbit | hbit
      · have ht0 : (bits .and .u64 (V : Int) 9223372036854775808 != 0) = false := by rw [ht, hbit]; rfl
        rw [hbit, Nat.pow_zero, Nat.mul_one] at hpw
        rw [← hpw] at h1
        have HE := Lib.hid (fun V' hV' => XL.step0 (V' := V') hlt hoz hozz hch h2 h1 hz3.st ho1 hoff1 hV')
        have HV2 := Lib.hid hV2
        clear hz hzz hoz hozz hoff hch hV hle hs1 c3 hz3 ho1 hoff1 hb hst hpw hV2 ht hbit h1 h2 h3
        go_wp2
        go_roundg (W - (j + 1))
        case measure => omega
        case rel =>
          have hf := HE.out _ HV2.out
          rw [Int.natCast_emod, Int.natCast_mul] at hf
          exact hf
      · have ht1 : (bits .and .u64 (V : Int) 9223372036854775808 != 0) = true := by rw [ht, hbit]; rfl
        rw [hbit, Nat.pow_one] at hpw
        have hl8 := five_pow_lt hle
        have hl16 : wlen (5 ^ (n / 2 ^ (W - j)) * 5 ^ (n / 2 ^ (W - j))) ≤ 16 := by
          refine wlen_le (Nat.lt_of_lt_of_le (lt_pow_mul (lt_wlen _) (lt_wlen _)) (Nat.pow_le_pow_right B_pos (by omega)))
        obtain ⟨hx, hy, hG3, hG4, hG5, hn1, hn2⟩ := HX.out
        have hl5 : wlen 5 = 1 := wlen_one (by omega) (by unfold B; omega)
        have hmul := mul_any zv (.pointer (some a)) v1 (.slice (some ⟨xb, 0, none⟩) 1 xc) _ 5 w3 hz3.st h1 (hx.keepF c3) (by omega) (by omega) (c3.cell hG3 (fun h => h)) (.inl ⟨hoff1, fun k hk h => by
          have := hx.lt k hk
          have := hoz k h
          omega⟩)
        rw [← hpw] at hmul
        have HE := Lib.hid (fun V' v2 w4 hV' h4 hv2 ho2 hoff2 hst1 => XL.step (n := n) (V' := V') (v2 := v2) (v1 := v1) (w4 := w4) (S := fun k => zv.ownBlock = some k) hlt hozz hch h2 h4 hoz hv2 hst1 ho2 ho1 hoff2 hV')
        have HV2 := Lib.hid hV2
        have HM := Lib.hid hmul
        have HB := Lib.hid (And.intro h1 (And.intro hoff1 (And.intro hoz (And.intro c3 hz3))))
        clear hz hzz hoz hozz hoff hch hV hle hs1 c3 hz3 ho1 hoff1 hb hst hpw hV2 ht hbit h1 h2 h3 hl8 hl16 hx hy hG3 hG4 hG5 hn1 hn2 hl5 hmul
        go_wp2_with fail
        refine HM.out.mono ?_
        rintro e w4 ⟨v2, rfl, g1, g2, g3⟩
        have HG := Lib.hid (And.intro g1 (And.intro g2 g3))
        clear g1 g2 g3
        go_wp2
        go_roundg (W - (j + 1))
        case measure => omega
        case rel =>
          obtain ⟨g1, g2, g3⟩ := HG.out
          obtain ⟨h1, hoff1, hoz, c3, hz3⟩ := HB.out
          have hs3 := c3.size
          have hf := HE.out _ _ _ HV2.out g2 g1 (fun k hk => (g3 k hk).elim (fun h => hoz k h) (fun h => by omega)) (fun k hk h => by
            rcases g3 k hk with h4 | h4
            · exact hoff1 k h h4
            · have := h1.lt k h; omega) (h1.st.keep g2 hoff1)
          rw [Int.natCast_emod, Int.natCast_mul] at hf
          exact hf
    · have hje : j = W := by omega
      subst hje
      have l1 : ¬ (j : Int) < 64 - ((sh : Int) + 1) := by have := HSH.out; omega
      rw [Nat.sub_self, Nat.pow_zero, Nat.div_one] at hz
      have HN := Lib.hid (norm_nv hz)
      have HP := Lib.hid (Powed.of rfl hz rfl hch hoz)
      clear hz hzz hoz hozz hoff hch hV
      go_wp2
      refine wp_loop_rounds 1 ?_
      rw [rounds_succ]
      go_wp2_with fail
      refine HN.out.mono ?_
      rintro e w' ⟨rfl, rfl⟩
      go_wp2
      refine ⟨_, results_tmp rfl _ _ _, ?_⟩
      exact HP.out

theorem expNN5 (a : Addr) (x y : Value) (n : Nat) (w : World) (hx : Nv w x 5) (hy : Nv w y n) (hn1 : 1 ≤ n) (hn2 : n ≤ 200)
    (hG3 : w.cell? ⟨3, 0, none⟩ = some (.int .i64 40)) (hG4 : w.cell? ⟨4, 0, none⟩ = some (.int .i64 12)) (hG5 : w.cell? ⟨5, 0, none⟩ = some (.int .i64 80)) :
    Calls Tryz.prog 44 #[.slice none 0 0, .pointer (some a), x, y, .slice none 0 0, .bool false] w (Powed n w) := by
  by_cases h : n = 1
  · subst h; exact expNN_one a x y w hx hy
  · exact expNN_more a x y n w hx hy (by omega) hn2 hG3 hG4 hG5
end Go.Proofs.YtbnmgopobmiadaaGreatDoor
