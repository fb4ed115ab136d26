/- Contract of lehmerSimulate. -/
import Derived.Test.YtbnmgopobmiadaaGreatDoorB21
import Derived.Test.YtbnmgopobmiadaaGreatDoorA1
import Derived.OwnWalk

set_option linter.unusedSimpArgs false
set_option linter.unusedVariables false

namespace Go.Proofs.YtbnmgopobmiadaaGreatDoor
open Go.RowKit

theorem or_words0 (a b : Nat) {s : Nat} (hs : s ≤ 64) (hb : b < B) (ha : a * 2 ^ s < B) :
    bits .or .u64 (IntKind.u64.wrap ((a : Nat) * 2 ^ s)) ((b : Nat) / 2 ^ (64 - s)) = ((a * 2 ^ s + b / 2 ^ (64 - s) : Nat) : Int) := by
  have hlt : b / 2 ^ (64 - s) < 2 ^ s := by
    rw [Nat.div_lt_iff_lt_mul (Nat.pow_pos (by omega)), ← B_split hs]; exact hb
  have h2 : 2 ^ s ≤ 2 ^ 64 := Nat.pow_le_pow_right (by omega) hs
  rw [wrap_shl, ← Nat.mod_eq_of_lt ha]
  have e2 : ((b : Nat) : Int) / 2 ^ (64 - s) = ((b / 2 ^ (64 - s) : Nat) : Int) := by push_cast; rfl
  have hm : a * 2 ^ s % B < 18446744073709551616 := Nat.mod_lt _ B_pos
  rw [e2, bits_or_u64_nat (a * 2 ^ s % B % B) (b / 2 ^ (64 - s)) (by rw [Nat.mod_mod]; exact hm) (by omega), Nat.mod_mod, or_disjoint _ _ hs hlt]

theorem results_tmp5 {fn : Func} {a b c d e : Tmp} (h : fn.results = #[.tmp a, .tmp b, .tmp c, .tmp d, .tmp e]) (tmps : Array Value) (P : Program) (w : World) :
    (results fn tmps).run P w = .ok (.tuple #[tmps.getD a undef, tmps.getD b undef, tmps.getD c undef, tmps.getD d undef, tmps.getD e undef]) w := by
  simp [results, h]
/-- what the simulation hands back -/
def Sim (X Y : Nat) (w : World) (e : Ending) (w' : World) : Prop :=
  ∃ u0 u1 v0 v1 even, e = .returned (.tuple #[.int .u64 (u0 : Nat), .int .u64 (u1 : Nat), .int .u64 (v0 : Nat), .int .u64 (v1 : Nat), .bool even]) ∧ u0 < B ∧ u1 < B ∧ v0 < B ∧ v1 < B ∧ (v0 = 0 ∨ LehOut X Y even u0 u1 v0 v1) ∧ ∃ n, w' = w.drewN n

set_option maxHeartbeats 8000000 in
set_option maxRecDepth 100000 in
theorem lehmerSimulate (ba bb : Nat) (va vb : Value) (X Y : Nat) (w : World) (ha : Im w ba false va X) (hb : Im w bb false vb Y) (hYX : Y ≤ X) (hY : 2 ≤ wlen Y) (hX : wlen X ≤ 10000) :
    Calls Tryz.prog 127 #[.pointer (some ⟨ba, 0, none⟩), .pointer (some ⟨bb, 0, none⟩)] w (Sim X Y w) := by
  have hY0 : Y ≠ 0 := by rintro rfl; rw [wlen_zero] at hY; omega
  have hX0 : X ≠ 0 := by omega
  have a1 := ha.blk.c1
  have b1 := hb.blk.c1
  obtain ⟨xb, xc, rfl, x1, x2, x3, x4⟩ := ha.nv.pos hX0
  obtain ⟨yb, yc, rfl, y1, y2, y3, y4⟩ := hb.nv.pos hY0
  have hXn := lt_wlen X
  have hYm := lt_wlen Y
  have hmono := wlen_mono hYX
  have htop := top_ne hX0
  generalize hn : wlen X = n at *
  generalize hm : wlen Y = m at *
  obtain ⟨xt, hxt⟩ : ∃ t, t = dig X (n - 1) := ⟨_, rfl⟩
  obtain ⟨xs, hxs⟩ : ∃ t, t = dig X (n - 2) := ⟨_, rfl⟩
  rw [← hxt] at htop
  have hxtB : xt < B := hxt ▸ dig_lt _ _
  have hxsB : xs < B := hxs ▸ dig_lt _ _
  obtain ⟨h, hh⟩ : ∃ h, h = nlzN xt := ⟨_, rfl⟩
  obtain ⟨hs1, hs2, hs3⟩ := nlzN_spec htop hxtB
  rw [← hh] at hs1 hs2 hs3
  have hnlz := nlz xt w hxtB
  rw [← hh] at hnlz
  have cx1 : w.cell? ⟨xb, n - 1, none⟩ = some (.int .u64 xt) := by
    have := x4 (n - 1) (by omega)
    rw [Nat.zero_add, wd, ← hxt] at this; exact this
  have cx2 : w.cell? ⟨xb, n - 2, none⟩ = some (.int .u64 xs) := by
    have := x4 (n - 2) (by omega)
    rw [Nat.zero_add, wd, ← hxs] at this; exact this
  obtain ⟨A, hA⟩ : ∃ A, A = X / (B ^ (n - 2) * 2 ^ (64 - h)) := ⟨_, rfl⟩
  obtain ⟨C, hC⟩ : ∃ C, C = Y / (B ^ (n - 2) * 2 ^ (64 - h)) := ⟨_, rfl⟩
  have hA1 : A = xt * 2 ^ h + xs / 2 ^ (64 - h) := by rw [hA, lead_word (by omega) hXn (by omega), hxt, hxs]
  have hAB : A < B := by rw [hA1]; exact lead_lt (by omega) hs3 hxsB
  have hC1 : C = dig Y (n - 1) * 2 ^ h + dig Y (n - 2) / 2 ^ (64 - h) := by rw [hC]; exact lead_word (by omega) (Nat.lt_of_le_of_lt hYX hXn) (by omega)
  have o1 : bits .or .u64 (IntKind.u64.wrap ((xt : Nat) * 2 ^ h)) ((xs : Nat) / 2 ^ (64 - h)) = (A : Int) := by rw [or_words0 _ _ (by omega) hxsB hs3, hA1]
  have hyt : dig Y (n - 1) * 2 ^ h < B := Nat.lt_of_le_of_lt (Nat.mul_le_mul_right _ (hxt ▸ top_word_le (by omega) hXn hYX)) hs3
  have hIs : LehI X Y (B ^ (n - 2) * 2 ^ (64 - h)) false A C 0 1 0 0 0 1 := by rw [hA, hC]; exact LehI.start hYX
  have t1 : ((n : Int) - 1).toNat = n - 1 := by omega
  have t2 : ((n : Int) - 2).toNat = n - 2 := by omega
  have w1 : IntKind.u64.wrap (64 - (h : Int)) = 64 - (h : Int) := by rw [IntKind.wrap_u64]; omega
  have w2 : (64 - (h : Int)).toNat = 64 - h := by omega
  have HI := Lib.hid (And.intro hIs (And.intro (lead_pos n h) (And.intro hA hAB)))
  have HY := Lib.hid (And.intro hYm (And.intro y4 (And.intro hyt hC1)))
  clear ha hb hYX x3 x4 y3 y4 hXn hYm htop hxt hxs hxtB hxsB hs2 hs3 hA hC hA1 hAB hC1 hyt hIs hX0 hY0 hn hm hh
  go_enter Tryz.func127, Tryz.ntmps127
  go_wp2_with fail
  refine hnlz.mono ?_
  rintro e w' ⟨rfl, rfl⟩
  clear hnlz
  go_wp2
  go_quiet (fail)
  have HC0 := Lib.hid HI.out.1
  obtain ⟨yt, hyt0⟩ : ∃ t, t = dig Y (n - 1) := ⟨_, rfl⟩
  obtain ⟨ys, hys0⟩ : ∃ t, t = dig Y (n - 2) := ⟨_, rfl⟩
  have hysB : ys < B := hys0 ▸ dig_lt _ _
  have hcs : n = m ∨ n = m + 1 ∨ m + 1 < n := by omega
  rcases hcs with hnm | hnm1 | hlt
  case' inl =>
    subst hnm
    obtain ⟨hYm, y4, hyt, hC1⟩ := HY.out
    rw [← hyt0] at hyt
    rw [← hyt0, ← hys0] at hC1
    have cy1 : w.cell? ⟨yb, n - 1, none⟩ = some (.int .u64 yt) := by
      have := y4 (n - 1) (by omega)
      rw [Nat.zero_add, wd, ← hyt0] at this; exact this
    have cy2 : w.cell? ⟨yb, n - 2, none⟩ = some (.int .u64 ys) := by
      have := y4 (n - 2) (by omega)
      rw [Nat.zero_add, wd, ← hys0] at this; exact this
    have o2 : bits .or .u64 (IntKind.u64.wrap ((yt : Nat) * 2 ^ h)) ((ys : Nat) / 2 ^ (64 - h)) = (C : Int) := by rw [or_words0 _ _ (by omega) hysB hyt, hC1]
    clear hYm y4 hyt hC1 hyt0 hys0 hysB
    go_wp2
    go_quiet (fail)
    go_wp2
  case' inr.inl =>
    have e1 : ((n : Int) == m) = false := beq_eq_false_iff_ne.2 (by omega)
    have e2 : ((n : Int) == (m : Int) + 1) = true := beq_iff_eq.2 (by omega)
    obtain ⟨hYm, y4, hyt, hC1⟩ := HY.out
    rw [← hys0, dig_of_lt (by rw [hnm1, Nat.add_sub_cancel]; exact hYm), Nat.zero_mul, Nat.zero_add] at hC1
    have cy2 : w.cell? ⟨yb, n - 2, none⟩ = some (.int .u64 ys) := by
      have := y4 (n - 2) (by omega)
      rw [Nat.zero_add, wd, ← hys0] at this; exact this
    have o2 : ((ys : Nat) : Int) / 2 ^ (64 - h) = (C : Int) := by rw [hC1]; push_cast; rfl
    have l1 : (n : Int) - 2 < m := by omega
    have l2 : (0 : Int) ≤ (n : Int) - 2 := by omega
    clear hYm y4 hyt hC1 hyt0 hys0 hysB hnm1
    go_wp2
  case' inr.inr =>
    have e1 : ((n : Int) == m) = false := beq_eq_false_iff_ne.2 (by omega)
    have e2 : ((n : Int) == m + 1) = false := beq_eq_false_iff_ne.2 (by omega)
    obtain ⟨hYm, y4, hyt, hC1⟩ := HY.out
    have hC0 : C = 0 := by
      have h2 : B ^ m ≤ B ^ (n - 2) := Nat.pow_le_pow_right B_pos (by omega)
      have h3 : B ^ (n - 2) ≤ B ^ (n - 1) := Nat.pow_le_pow_right B_pos (by omega)
      rw [hC1, dig_of_lt (i := n - 1) (by omega), dig_of_lt (i := n - 2) (by omega), Nat.zero_mul, Nat.zero_div]
    subst hC0
    clear hYm y4 hyt hC1 hyt0 hys0 hysB
    go_wp2
  all_goals
    clear HY a1 b1 cx1 cx2 o1 w1 w2 t1 t2
    go_loopw [4, 5, 6, 7, 8, 9, 10, 11, 12] (fun x0 x1 y0 y1 ev p1 p2 x2 y2 wr => ∃ (u0 u1 u2 v0 v1 v2 a1 a2 : Nat) (even : Bool), x0 = .int .u64 u0 ∧ x1 = .int .u64 u1 ∧ y0 = .int .u64 v0 ∧ y1 = .int .u64 v1 ∧ ev = .bool even ∧ p1 = .int .u64 a1 ∧ p2 = .int .u64 a2 ∧ x2 = .int .u64 u2 ∧ y2 = .int .u64 v2 ∧
      Hid (LehI X Y (B ^ (n - 2) * 2 ^ (64 - h)) even a1 a2 u0 u1 u2 v0 v1 v2) ∧ u0 < B ∧ u1 < B ∧ v0 < B ∧ v1 < B ∧ v2 < B ∧ a1 < B ∧ u2 < B ∧ ∃ k, wr = w.drewN k) (fun _ _ _ _ _ _ p2 _ _ _ => (intOf p2).toNat)
    case atStart => exact ⟨0, 1, 0, 0, 0, 1, A, _, false, rfl, rfl, rfl, rfl, rfl, rfl, rfl, rfl, rfl, HC0, B_pos, one_lt_B, B_pos, B_pos, one_lt_B, HI.out.2.2.2, B_pos, by first | exact ⟨_, rfl⟩ | exact ⟨_, World.drewN_drewN _ _ _⟩⟩
    case round =>
      obtain ⟨u0, u1, u2, v0, v1, v2, a1, a2, even, rfl, rfl, rfl, rfl, rfl, rfl, rfl, rfl, rfl, HL, b1, b2, b3, b4, b5, b6, b7, k, rfl⟩ := hrel
      have hS := HI.out.2.1
      have hAx := HI.out.2.2.1
      have hAB := HI.out.2.2.2
      by_cases c1 : v2 ≤ a2
      · have hpos : 0 < a2 := by have := HL.out.leh.pos; omega
        have hle := HL.out.leh.le
        have hvs := HL.out.leh.vs_le hpos
        rw [← hAx] at hvs
        have f1 : IntKind.u64.wrap ((a1 : Int) - a2) = (a1 : Int) - a2 := by rw [IntKind.wrap_u64]; unfold B at *; omega
        have f2 : IntKind.u64.wrap ((v1 : Int) + v2) = (v1 : Int) + v2 := by rw [IntKind.wrap_u64]; unfold B at *; omega
        have g1 : (v2 : Int) ≤ a2 := by omega
        by_cases c2 : v1 + v2 ≤ a1 - a2
        · have g2 : (v1 : Int) + v2 ≤ (a1 : Int) - a2 := by omega
          have hn := HL.out.step hS c1 c2
          have hv2 := hn.leh.v_le hpos
          have hu2 := hn.leh.uv2
          rw [← hAx] at hv2
          have hr := Nat.mod_lt a1 hpos
          have hd : a1 / a2 * a2 ≤ a1 := Nat.div_mul_le_self _ _
          have f3 : IntKind.u64.wrap (((a1 / a2 : Nat) : Int) * u2) = ((a1 / a2 * u2 : Nat) : Int) := by rw [Int.natCast_mul, IntKind.wrap_u64, ← Int.natCast_mul]; unfold B at *; omega
          have f4 : IntKind.u64.wrap (((a1 / a2 : Nat) : Int) * v2) = ((a1 / a2 * v2 : Nat) : Int) := by rw [Int.natCast_mul, IntKind.wrap_u64, ← Int.natCast_mul]; unfold B at *; omega
          have f5 : IntKind.u64.wrap ((u1 : Int) + ((a1 / a2 * u2 : Nat) : Int)) = ((u1 + a1 / a2 * u2 : Nat) : Int) := by rw [IntKind.wrap_u64]; unfold B at *; omega
          have f6 : IntKind.u64.wrap ((v1 : Int) + ((a1 / a2 * v2 : Nat) : Int)) = ((v1 + a1 / a2 * v2 : Nat) : Int) := by rw [IntKind.wrap_u64]; unfold B at *; omega
          have f7 : ((a2 : Int) == 0) = false := beq_eq_false_iff_ne.2 (by omega)
          have hNB : u1 + a1 / a2 * u2 < B ∧ v1 + a1 / a2 * v2 < B ∧ a2 < B ∧ a1 % a2 < a2 := by omega
          have HN := Lib.hid (And.intro hn hNB)
          clear hn hv2 hu2 hd hS hAx hvs hNB hr
          go_wp2
          go_quiet (fail)
          go_wp2
          obtain ⟨hn, hB1, hB2, hB3, hB4⟩ := HN.out
          have z1 : IntKind.u64.wrap ((a1 : Int) / a2) = ((a1 / a2 : Nat) : Int) := by
            rw [← Int.natCast_ediv]; exact wrap_nat (Nat.lt_of_le_of_lt (Nat.div_le_self _ _) b6)
          rw [z1, f3, f4, f5, f6]
          refine ⟨⟨u1, u2, u1 + a1 / a2 * u2, v1, v2, v1 + a1 / a2 * v2, a2, a1 % a2, !even, rfl, rfl, rfl, rfl, rfl, rfl, by rw [Int.natCast_emod], rfl, rfl, Lib.hid hn, b2, b7, b4, b5, hB2, hB3, hB1, _, rfl⟩, ?_⟩
          simp [intOf]; omega
        · have g2 : ¬ (v1 : Int) + v2 ≤ (a1 : Int) - a2 := by omega
          have HO := Lib.hid HL.out.out
          go_wp2
          refine bodyPost_ret (results_tmp5 rfl _ _ _) rfl ?_
          exact ⟨u0, u1, v0, v1, even, rfl, b1, b2, b3, b4, HO.out, k, rfl⟩
      · have g1 : ¬ (v2 : Int) ≤ a2 := by omega
        have HO := Lib.hid HL.out.out
        go_wp2
        refine bodyPost_ret (results_tmp5 rfl _ _ _) rfl ?_
        exact ⟨u0, u1, v0, v1, even, rfl, b1, b2, b3, b4, HO.out, k, rfl⟩
end Go.Proofs.YtbnmgopobmiadaaGreatDoor
