/- Contracts of bigall's small functions on words and of its helpers on natural numbers. -/
import Derived.Test.YtbnmgopobmiadaaGreatDoorB1
import Derived.Test.YtbnmgopobmiadaaGreatDoorA2
import Derived.Laws.CopyRow
import Derived.Outline

set_option linter.unusedSimpArgs false
set_option linter.unusedVariables false

namespace Go.Proofs.YtbnmgopobmiadaaGreatDoor
open Go.RowKit

theorem info136 : (Tryz.prog.info? 136).map (fun i => (i.zero, i.size, i.bytes)) = some (some (.int .u64 0), 1, 8) := by kernel_rfl
theorem info136s : (Tryz.prog.info? 136).map (·.size) = some 1 := by kernel_rfl

/-- the words of X as a list of values -/
def wds (X n : Nat) : List Value := (List.range n).map (wd X)
theorem wds_length (X n : Nat) : (wds X n).length = n := by simp [wds]
theorem wds_get (X n i : Nat) (h : i < n) : (wds X n)[i]? = some (wd X i) := by simp [wds, h]
theorem wds_one (X n : Nat) : ∀ v ∈ wds X n, v.oneCell' = true := by
  intro v hv; simp only [wds, List.mem_map] at hv; obtain ⟨i, _, rfl⟩ := hv; rfl

/-- a row written over by words -/
theorem Wr.setRow {w : World} {b o n X : Nat} {c : Array Value} {e : TypeId} (hb : w.heap[b]? = some (.cells c e (0, 0))) (hs : o + n ≤ c.size) {r : Array Value}
    (hr : r = (c.toList.take o ++ wds X n ++ c.toList.drop (o + n)).toArray) : Wr w (w.setRow b r) b o n X := by
  have hsz : r.size = c.size := by subst hr; simp [wds_length]; omega
  refine ⟨rfl, rfl, rfl, by simp [World.setRow], fun k hk => ?_, c, r, e, hb, setRow_heap _ _ _ _ _ _ hb, hsz, fun j hj => ?_, fun i hi => ?_⟩
  · simp only [World.setRow, Array.getElem?_modify]; rw [if_neg (by omega)]
  · subst hr
    rw [List.getElem?_toArray]
    rcases hj with hj | hj
    · rw [List.append_assoc, List.getElem?_append_left (by simp; omega), List.getElem?_take, if_pos hj]; simp
    · rw [List.getElem?_append_right (by simp [wds_length]; omega)]
      simp only [List.length_append, List.length_take, wds_length, List.getElem?_drop, Array.length_toList]
      rw [show o + n + (j - (min o c.size + n)) = j by omega]; simp
  · subst hr
    rw [List.getElem?_toArray, List.append_assoc, List.getElem?_append_right (by simp; omega), List.getElem?_append_left (by simp [wds_length]; omega)]
    rw [List.length_take, Array.length_toList, Nat.min_eq_left (by omega), Nat.add_sub_cancel_left]
    exact wds_get X n i hi

theorem addr_add (b o j : Nat) : (⟨b, o, none⟩ : Addr).add j = ⟨b, o + j, none⟩ := by unfold Addr.add; split <;> simp_all
/-- the builtin copy on words -/
theorem run_copy_words (w : World) (dT sT ty : TypeId) (hu : Tryz.prog.underlying dT = some (.slice 136)) (zb zo dLen dCap xb xo sLen sCap n X : Nat) (hn : n = Nat.min sLen dLen)
    (hz : Wb w zb zo n) (hx : Rd w xb xo n X) :
    ∃ w', (Builtin.copy_ #[dT, sT] ty #[.slice (some ⟨zb, zo, none⟩) dLen dCap, .slice (some ⟨xb, xo, none⟩) sLen sCap]).run Tryz.prog w = .ok (goInt n) w' ∧ Wr w w' zb zo n X := by
  obtain ⟨c, e, hb, hs⟩ := hz
  have h := run_copy_row (P := Tryz.prog) w dT sT ty 136 zb zo dLen dCap ⟨xb, xo, none⟩ sLen sCap c e (wds X n) hu info136s hb (by rw [wds_length, hn])
    (fun j v hj => by
      have hlt : j < n := by have := (List.getElem?_eq_some_iff.1 hj).1; rwa [wds_length] at this
      rw [wds_get X n j hlt] at hj; cases hj
      rw [addr_add]; exact hx j hlt) (by rw [wds_length]; exact hs) (wds_one X n)
  rw [wds_length] at h
  exact ⟨_, h, Wr.setRow hb hs rfl⟩

def nlzN (x : Nat) : Nat := 64 - Lib.bitLen x
theorem bitLen_spec (x : Nat) (hx : x < 2 ^ 64) : x < 2 ^ Lib.bitLen x ∧ (x ≠ 0 → 0 < Lib.bitLen x ∧ 2 ^ (Lib.bitLen x - 1) ≤ x) := by
  induction x using Nat.strongRecOn with
  | _ x ih =>
    by_cases h : x = 0
    · subst h; exact ⟨by decide, fun h => absurd rfl h⟩
    · have h1 := Lib.bitLen_half x h hx
      obtain ⟨h2, h3⟩ := ih (x / 2) (by omega) (by omega)
      rw [h1, Nat.add_comm]
      refine ⟨by rw [Nat.pow_succ]; omega, fun _ => ⟨by omega, ?_⟩⟩
      rw [Nat.add_sub_cancel]
      by_cases h0 : x / 2 = 0
      · rw [h0, show Lib.bitLen 0 = 0 by decide]; omega
      · obtain ⟨h4, h5⟩ := h3 h0
        rw [show Lib.bitLen (x / 2) = (Lib.bitLen (x / 2) - 1) + 1 by omega, Nat.pow_succ]; omega
theorem bitLen_le (x : Nat) (hx : x < 2 ^ 64) : Lib.bitLen x ≤ 64 := by
  refine Nat.le_of_not_lt fun h => ?_
  have h0 : x ≠ 0 := by rintro rfl; revert h; decide
  have := ((bitLen_spec x hx).2 h0).2
  have h2 : 2 ^ 64 ≤ 2 ^ (Lib.bitLen x - 1) := Nat.pow_le_pow_right (by omega) (by omega)
  omega
/-- what 'leading zeros' says: shifted by them the top bit is set -/
theorem nlzN_spec {x : Nat} (h0 : x ≠ 0) (hx : x < B) : nlzN x < 64 ∧ B ≤ 2 * (x * 2 ^ nlzN x) ∧ x * 2 ^ nlzN x < B := by
  rw [B_eq] at *
  obtain ⟨h1, h2⟩ := bitLen_spec x hx
  obtain ⟨h3, h4⟩ := h2 h0
  have h5 := bitLen_le x hx
  have e : nlzN x + Lib.bitLen x = 64 := by unfold nlzN; omega
  refine ⟨by omega, ?_, ?_⟩
  · have : 2 ^ (Lib.bitLen x - 1) * 2 ^ nlzN x ≤ x * 2 ^ nlzN x := Nat.mul_le_mul_right _ h4
    rw [← Nat.pow_add, show Lib.bitLen x - 1 + nlzN x = 63 by omega] at this
    omega
  · have : x * 2 ^ nlzN x < 2 ^ Lib.bitLen x * 2 ^ nlzN x := Nat.mul_lt_mul_of_pos_right h1 (Nat.pow_pos (by omega))
    rw [← Nat.pow_add, show Lib.bitLen x + nlzN x = 64 by omega] at this
    exact this
set_option maxRecDepth 100000 in
theorem nlz (x : Nat) (w : World) (hx : x < B) :
    Calls Tryz.prog 90 #[.int .u64 x] w fun e w' => e = .returned (.int .u64 (nlzN x : Nat)) ∧ w = w' := by
  go_enter Tryz.func90, Tryz.ntmps90
  go_wp2_with fail
  refine (Tryz.bits_LeadingZeros _ _ (by omega) (by unfold B at hx; omega)).mono ?_
  rintro e w' ⟨rfl, rfl⟩
  have hbl : Lib.bitLen x ≤ 64 := bitLen_le x (by rw [B_eq] at hx; exact hx)
  rw [show (x : Int).toNat = x from rfl]
  rw [show (64 - (Lib.bitLen x : Int)) = (nlzN x : Nat) by unfold nlzN; omega]
  have hb : nlzN x ≤ 64 := by unfold nlzN; omega
  clear hbl hx
  generalize hk : nlzN x = k at *
  have HK := Lib.hid hk
  clear hk
  go_wp2
  go_ret
  exact ⟨by rw [HK.out]; rfl, rfl⟩

set_option maxRecDepth 100000 in
theorem addVV (zb zo xb xo yb yo n cz cx cy X Y : Nat) (w : World) (hn : n ≤ 4611686018427387904)
    (hz : Wb w zb zo n) (hx : Rd w xb xo n X) (hy : Rd w yb yo n Y)
    (hdx : xb ≠ zb ∨ zo ≤ xo ∨ xo + n ≤ zo) (hdy : yb ≠ zb ∨ zo ≤ yo ∨ yo + n ≤ zo) :
    Calls Tryz.prog 159 #[.slice (some ⟨zb, zo, none⟩) n cz, .slice (some ⟨xb, xo, none⟩) n cx, .slice (some ⟨yb, yo, none⟩) n cy] w fun e w' =>
      e = .returned (.int .u64 (cadd X Y 0 n : Nat)) ∧ Wr w w' zb zo n (X + Y) := by
  go_enter Tryz.func159, Tryz.ntmps159
  go_wp2_with fail
  refine (addVV_g _ _ _ _ _ _ _ _ _ _ X Y _ hn hz hx hy hdx hdy).mono ?_
  rintro e w' ⟨rfl, hw⟩
  go_wp2
  go_ret
  exact ⟨rfl, hw⟩
set_option maxRecDepth 100000 in
theorem subVV (zb zo xb xo yb yo n cz cx cy X Y : Nat) (w : World) (hn : n ≤ 4611686018427387904) (hX : X < B ^ n) (hY : Y < B ^ n)
    (hz : Wb w zb zo n) (hx : Rd w xb xo n X) (hy : Rd w yb yo n Y)
    (hdx : xb ≠ zb ∨ zo ≤ xo ∨ xo + n ≤ zo) (hdy : yb ≠ zb ∨ zo ≤ yo ∨ yo + n ≤ zo) :
    Calls Tryz.prog 182 #[.slice (some ⟨zb, zo, none⟩) n cz, .slice (some ⟨xb, xo, none⟩) n cx, .slice (some ⟨yb, yo, none⟩) n cy] w fun e w' =>
      e = .returned (.int .u64 (bsub X Y 0 n : Nat)) ∧ Wr w w' zb zo n (X + B ^ n - Y) := by
  go_enter Tryz.func182, Tryz.ntmps182
  go_wp2_with fail
  refine (subVV_g _ _ _ _ _ _ _ _ _ _ X Y _ hn hX hY hz hx hy hdx hdy).mono ?_
  rintro e w' ⟨rfl, hw⟩
  go_wp2
  go_ret
  exact ⟨rfl, hw⟩
set_option maxRecDepth 100000 in
theorem mulAddVWW (zb zo xb xo n cz cx X y r : Nat) (w : World) (hn : n ≤ 4611686018427387904) (hy : y < B) (hr : r < B)
    (hz : Wb w zb zo n) (hx : Rd w xb xo n X)
    (hdx : xb ≠ zb ∨ zo ≤ xo ∨ xo + n ≤ zo) :
    Calls Tryz.prog 122 #[.slice (some ⟨zb, zo, none⟩) n cz, .slice (some ⟨xb, xo, none⟩) n cx, .int .u64 y, .int .u64 r] w fun e w' =>
      e = .returned (.int .u64 (cmul X y r n : Nat)) ∧ Wr w w' zb zo n (X * y + r) := by
  go_enter Tryz.func122, Tryz.ntmps122
  go_wp2_with fail
  refine (mulAddVWW_g _ _ _ _ _ _ _ X _ _ _ hn hy hr hz hx hdx).mono ?_
  rintro e w' ⟨rfl, hw⟩
  go_wp2
  go_ret
  exact ⟨rfl, hw⟩
set_option maxRecDepth 100000 in
theorem addMulVVWW (zb zo xb xo yb yo n cz cx cy X Y m a : Nat) (w : World) (hn : n ≤ 4611686018427387904) (hm : m < B) (ha : a < B)
    (hz : Wb w zb zo n) (hx : Rd w xb xo n X) (hy : Rd w yb yo n Y)
    (hdx : xb ≠ zb ∨ zo ≤ xo ∨ xo + n ≤ zo) (hdy : yb ≠ zb ∨ zo ≤ yo ∨ yo + n ≤ zo) :
    Calls Tryz.prog 153 #[.slice (some ⟨zb, zo, none⟩) n cz, .slice (some ⟨xb, xo, none⟩) n cx, .slice (some ⟨yb, yo, none⟩) n cy, .int .u64 m, .int .u64 a] w fun e w' =>
      e = .returned (.int .u64 (cam X Y m a n : Nat)) ∧ Wr w w' zb zo n (X + Y * m + a) := by
  go_enter Tryz.func153, Tryz.ntmps153
  go_wp2_with fail
  refine (addMulVVWW_g _ _ _ _ _ _ _ _ _ _ X Y _ _ _ hn hm ha hz hx hy hdx hdy).mono ?_
  rintro e w' ⟨rfl, hw⟩
  go_wp2
  go_ret
  exact ⟨rfl, hw⟩
set_option maxRecDepth 100000 in
theorem lshVU (zb zo xb xo n cz cx X s : Nat) (w : World) (hn : n ≤ 4611686018427387904) (hn0 : 0 < n) (hs0 : 0 < s) (hs : s < 64)
    (hz : Wb w zb zo n) (hx : Rd w xb xo n X) (hdx : xb ≠ zb ∨ xo ≤ zo ∨ zo + n ≤ xo) :
    Calls Tryz.prog 99 #[.slice (some ⟨zb, zo, none⟩) n cz, .slice (some ⟨xb, xo, none⟩) n cx, .int .u64 s] w fun e w' =>
      e = .returned (.int .u64 (dig X (n - 1) / 2 ^ (64 - s) : Nat)) ∧ Wr w w' zb zo n (X * 2 ^ s) := by
  go_enter Tryz.func99, Tryz.ntmps99
  go_wp2_with fail
  refine (lshVU_g _ _ _ _ _ _ _ X _ _ hn hn0 hs0 hs hz hx hdx).mono ?_
  rintro e w' ⟨rfl, hw⟩
  go_wp2
  go_ret
  exact ⟨rfl, hw⟩
set_option maxRecDepth 100000 in
theorem rshVU (zb zo xb xo n cz cx X s : Nat) (w : World) (hn : n ≤ 4611686018427387904) (hn0 : 0 < n) (hs0 : 0 < s) (hs : s < 64) (hX : X < B ^ n)
    (hz : Wb w zb zo n) (hx : Rd w xb xo n X) (hdx : xb ≠ zb ∨ zo ≤ xo ∨ xo + n ≤ zo) :
    Calls Tryz.prog 123 #[.slice (some ⟨zb, zo, none⟩) n cz, .slice (some ⟨xb, xo, none⟩) n cx, .int .u64 s] w fun e w' =>
      (∃ c, e = .returned (.int .u64 c)) ∧ Wr w w' zb zo n (X / 2 ^ s) := by
  go_enter Tryz.func123, Tryz.ntmps123
  go_wp2_with fail
  refine (rshVU_g _ _ _ _ _ _ _ X _ _ hn hn0 hs0 hs hX hz hx hdx).mono ?_
  rintro e w' ⟨⟨c, rfl⟩, hw⟩
  go_wp2
  go_ret
  exact ⟨⟨_, rfl⟩, hw⟩
end Go.Proofs.YtbnmgopobmiadaaGreatDoor

/- Contracts of bigall's nat helpers: norm, make, setWord, set, alias, cmp. -/
namespace Go.Proofs.YtbnmgopobmiadaaGreatDoor
open Go.RowKit

set_option maxRecDepth 100000 in
theorem norm_any (b o n cap X : Nat) (w : World) (hcap : n ≤ cap) (hc : cap ≤ 4611686018427387904) (hX : X < B ^ n) (hx : Rd w b o n X) :
    Calls Tryz.prog 73 #[.slice (some ⟨b, o, none⟩) n cap] w fun e w' => e = .returned (.slice (some ⟨b, o, none⟩) (wlen X) cap) ∧ w = w' := by
  have HX := Lib.hid hX
  clear hX
  go_enter Tryz.func73, Tryz.ntmps73
  go_wp2
  go_loop [3] (fun i => ∃ k : Nat, k ≤ n ∧ i = .int .i64 k ∧ Hid (X < B ^ k)) (fun i => (intOf i).toNat)
  case atStart => exact ⟨n, by omega, rfl, HX⟩
  case round =>
    obtain ⟨k, hk, rfl, hX⟩ := hrel
    by_cases h0 : 0 < k
    · have hcx : w.cell? ⟨b, o + (k - 1), none⟩ = some (.int .u64 (dig X (k - 1) : Nat)) := hx (k - 1) (by omega)
      by_cases hd : dig X (k - 1) = 0
      · have hz : ((dig X (k - 1) : Nat) : Int) = 0 := by omega
        rw [hz] at hcx
        have HD := Lib.hid hd
        clear hd hz
        go_wp2
        go_round
        case rel =>
          refine ⟨k - 1, by omega, by rw [Int.ofNat_sub (by omega)]; rfl, Lib.hid (wlen_lt_of_top ?_ HD.out)⟩
          rw [Nat.sub_add_cancel h0]; exact hX.out
        case measure => simp [intOf]; omega
      · have hz : (((dig X (k - 1) : Nat) : Int) == 0) = false := by simp; exact hd
        have HD := Lib.hid hd
        clear hd
        have e : Hid (wlen X = k) := by
          have h1 : B ^ (k - 1) ≤ X := by
            refine Nat.le_of_not_lt fun hlt => HD.out ?_
            exact dig_of_lt hlt
          have h2 := hX.out
          rw [show k = (k - 1) + 1 by omega] at h2
          have := wlen_eq h2 h1
          exact Lib.hid (by omega)
        go_wp2
        go_ret
        exact ⟨by rw [e.out]; rfl, rfl⟩
    · obtain rfl : k = 0 := by omega
      have e : Hid (wlen X = 0) := by
        have h2 := hX.out
        rw [Nat.pow_zero] at h2
        exact Lib.hid (wlen_eq_zero.2 (by omega))
      go_wp2
      go_ret
      exact ⟨by rw [e.out]; rfl, rfl⟩

set_option maxRecDepth 100000 in
theorem norm_nil (w : World) :
    Calls Tryz.prog 73 #[.slice none 0 0] w fun e w' => e = .returned (.slice none 0 0) ∧ w = w' := by
  go_enter Tryz.func73, Tryz.ntmps73
  go_wp2
  refine wp_loop_rounds 1 ?_
  rw [rounds_succ]
  go_wp2
  go_ret
  exact ⟨rfl, rfl⟩

/-- what make gives: n words of room, in the old row or in a new block -/
def Made (z : Value) (n : Nat) (w : World) (e : Ending) (w' : World) : Prop :=
  ∃ b cap, e = .returned (.slice (some ⟨b, 0, none⟩) n cap) ∧ n ≤ cap ∧ cap ≤ 4611686018427387904 ∧ Wb w' b 0 cap ∧ Chg (fun _ => False) w w' ∧ (z.ownBlock = some b ∨ b = w.heap.size)

theorem run_make_words (w : World) (l c : Int) (h0 : 0 ≤ l) (hl : l ≤ c) (hc : c ≤ 2000000) :
    ∃ w', (Instr.makeSlice 82 (.int .i64 l) (.int .i64 c)).run Tryz.prog w = .ok (.slice (some ⟨w.heap.size, 0, none⟩) l.toNat c.toNat) w' ∧
      Chg (fun _ => False) w w' ∧ Wb w' w.heap.size 0 c.toNat ∧ Rd w' w.heap.size 0 c.toNat 0 := by
  obtain ⟨i0, hi, hz0, hz1, hz2⟩ := info_parts info136
  have h := run_makeSlice (P := Tryz.prog) (w := w) 82 136 i0 (.int .u64 0) Tryz.underlying82 hi hz0 .i64 .i64 l c h0 hl (by rw [hz1]; omega) (by rw [hz2]; omega) (by omega)
  have hsz : (madeCells (Value.cells (.int .u64 0)) (c.toNat * i0.size)).size = c.toNat := by rw [hz1]; simp [madeCells]
  have hh : (w.alloc (.cells (madeCells (Value.cells (.int .u64 0)) (c.toNat * i0.size)) 136)).heap[w.heap.size]? = some (.cells (madeCells (Value.cells (.int .u64 0)) (c.toNat * i0.size)) 136 (0, 0)) := heap_alloc_new w _
  refine ⟨_, h, (Chg.refl _ w).alloc _, ⟨_, _, hh, by omega⟩, fun j hj => ?_⟩
  have hd : wd 0 j = .int .u64 0 := by rw [wd, dig_of_lt (Bpow_pos j)]; rfl
  simp only [World.cell?, hh]
  rw [hd, hz1, Nat.mul_one, Nat.zero_add]
  simp [madeCells, Value.cells, hj, Nat.mod_one]

set_option maxRecDepth 100000 in
theorem make_any (z : Value) (n : Nat) (w : World) (hz : St w z) (hn0 : 0 < n) (hn : n ≤ 1000000) :
    Calls Tryz.prog 85 #[z, .int .i64 n] w (Made z n w) := by
  rcases hz with rfl | ⟨b, n0, cap, rfl, h1, h2, h3⟩
  · by_cases hone : n = 1
    · subst hone
      obtain ⟨w', hrun, hc, hb, _⟩ := run_make_words w 1 1 (by omega) (by omega) (by omega)
      go_enter Tryz.func85, Tryz.ntmps85
      go_wp2
      go_ret
      exact ⟨_, _, rfl, by omega, by omega, hb, hc, .inr rfl⟩
    · have h1 : ((n : Int) == 1) = false := by simp; omega
      obtain ⟨w', hrun, hc, hb, _⟩ := run_make_words w n (n + 4) (by omega) (by omega) (by omega)
      rw [show ((n : Int) + 4).toNat = n + 4 by omega, Int.toNat_natCast] at *
      have HO := Lib.hid hone
      clear hone
      go_enter Tryz.func85, Tryz.ntmps85
      go_wp2
      go_ret
      exact ⟨_, _, rfl, by omega, by omega, hb, hc, .inr rfl⟩
  · by_cases hle : n ≤ cap
    · go_enter Tryz.func85, Tryz.ntmps85
      go_wp2
      go_ret
      exact ⟨b, cap, rfl, hle, h2, h3, Chg.refl _ _, .inl rfl⟩
    · by_cases hone : n = 1
      · subst hone
        obtain ⟨w', hrun, hc, hb, _⟩ := run_make_words w 1 1 (by omega) (by omega) (by omega)
        go_enter Tryz.func85, Tryz.ntmps85
        go_wp2
        go_ret
        exact ⟨_, _, rfl, by omega, by omega, hb, hc, .inr rfl⟩
      · have hne : ((n : Int) == 1) = false := by simp; omega
        obtain ⟨w', hrun, hc, hb, _⟩ := run_make_words w n (n + 4) (by omega) (by omega) (by omega)
        rw [show ((n : Int) + 4).toNat = n + 4 by omega, Int.toNat_natCast] at *
        have HO := Lib.hid hone
        clear hone
        go_enter Tryz.func85, Tryz.ntmps85
        go_wp2
        go_ret
        exact ⟨_, _, rfl, by omega, by omega, hb, hc, .inr rfl⟩

set_option maxRecDepth 100000 in
theorem setWord_any (z : Value) (x : Nat) (w : World) (hz : St w z) (hx : x < B) :
    Calls Tryz.prog 46 #[z, .int .u64 x] w fun e w' => ∃ v, e = .returned v ∧ Nv w' v x ∧ Chg (fun k => z.ownBlock = some k) w w' ∧ (∀ k, v.ownBlock = some k → z.ownBlock = some k ∨ k = w.heap.size) := by
  by_cases h0 : x = 0
  · subst h0
    rcases hz with rfl | ⟨b, n0, cap, rfl, h1, h2, h3⟩
    · go_enter Tryz.func46, Tryz.ntmps46
      go_wp2
      go_ret
      exact ⟨_, rfl, .inl ⟨rfl, rfl⟩, Chg.refl _ _, fun k hk => .inl hk⟩
    · go_enter Tryz.func46, Tryz.ntmps46
      go_wp2
      go_ret
      refine ⟨_, rfl, .inr ⟨b, cap, by rw [wlen_zero]; rfl, ?_, h2, h3, ?_⟩, Chg.refl _ _, fun k hk => .inl hk⟩
      · rw [wlen_zero]; omega
      · intro i hi; rw [wlen_zero] at hi; omega
  · have hne : (((x : Nat) : Int) == 0) = false := by simp; exact h0
    have hl := wlen_one h0 hx
    have HL := Lib.hid hl
    have HX := Lib.hid hx
    have H0 := Lib.hid h0
    clear hl hx h0
    go_enter Tryz.func46, Tryz.ntmps46
    go_wp2_with fail
    refine (make_any z 1 w hz (by omega) (by omega)).mono ?_
    rintro e w1 ⟨b, cap, rfl, h1, h2, h3, h4, h5⟩
    obtain ⟨v0, hc0⟩ := h3.cell (i := 0) (by omega)
    have hf0 := h3.frozen 0
    rw [Nat.add_zero] at hc0
    go_wp2
    go_ret
    have hw : Wr w1 (w1.setCell ⟨b, 0, none⟩ (.int .u64 x)) b 0 1 x := by
      have := (Wr.start (h3.mono (o' := 0) (n' := 1) (by omega)) x).snoc (m := 1) (h3.mono (by omega)) (by omega) (v := .int .u64 x) (by rw [wd, dig_zero, Nat.mod_eq_of_lt HX.out])
      exact this
    refine ⟨_, rfl, .inr ⟨b, cap, by rw [HL.out]; rfl, by rw [HL.out]; omega, h2, hw.wb h3, by rw [HL.out]; exact hw.rd⟩, ?_, ?_⟩
    · refine h4.trans hw.chg (fun _ h => h.elim) (fun k hk e => ?_)
      subst e
      rcases h5 with h5 | h5
      · exact h5
      · omega
    · intro k hk
      simp [Value.ownBlock] at hk
      subst hk
      exact h5

/-- z[:0] -/
def cutv : Value → Value
  | .slice a _ c => .slice a 0 c
  | v => v
set_option maxRecDepth 100000 in
theorem make_zero (z : Value) (w : World) (hz : St w z) :
    Calls Tryz.prog 85 #[z, .int .i64 0] w fun e w' => e = .returned (cutv z) ∧ w = w' := by
  rcases hz with rfl | ⟨b, n0, cap, rfl, h1, h2, h3⟩
  · go_enter Tryz.func85, Tryz.ntmps85
    go_wp2
    go_ret
    exact ⟨rfl, rfl⟩
  · go_enter Tryz.func85, Tryz.ntmps85
    go_wp2
    go_ret
    exact ⟨rfl, rfl⟩
theorem St.cut_zero {w : World} {z : Value} (hz : St w z) : Nv w (cutv z) 0 := by
  rcases hz with rfl | ⟨b, n0, cap, rfl, h1, h2, h3⟩
  · exact .inl ⟨rfl, rfl⟩
  · exact .inr ⟨b, cap, by rw [wlen_zero]; rfl, by rw [wlen_zero]; omega, h2, h3, fun i hi => by rw [wlen_zero] at hi; omega⟩
theorem ownBlock_cut (z : Value) : (cutv z).ownBlock = z.ownBlock := by
  unfold cutv
  split
  · rename_i a n c; cases a <;> rfl
  · rfl

set_option maxRecDepth 100000 in
theorem set_any (z x : Value) (X : Nat) (w : World) (hz : St w z) (hx : Nv w x X) (hX : wlen X ≤ 1000000) (ho : Off (fun k => z.ownBlock = some k) x) :
    Calls Tryz.prog 83 #[z, x] w fun e w' => ∃ v, e = .returned v ∧ Nv w' v X ∧ Chg (fun k => z.ownBlock = some k) w w' ∧ (∀ k, v.ownBlock = some k → z.ownBlock = some k ∨ k = w.heap.size) := by
  by_cases h0 : X = 0
  · subst h0
    have hz' := hz
    have key : ∀ (u : Option Addr) (c : Nat), Calls Tryz.prog 83 #[z, .slice u 0 c] w fun e w' => ∃ v, e = .returned v ∧ Nv w' v 0 ∧ Chg (fun k => z.ownBlock = some k) w w' ∧ (∀ k, v.ownBlock = some k → z.ownBlock = some k ∨ k = w.heap.size) := by
      intro u c
      go_enter Tryz.func83, Tryz.ntmps83
      go_wp2_with fail
      refine (make_zero z w hz).mono ?_
      rintro e w1 ⟨rfl, rfl⟩
      have hcut : ∃ a c', (cutv z) = .slice a 0 c' := by
        rcases hz with rfl | ⟨b, n0, cap, rfl, h1, h2, h3⟩
        · exact ⟨_, _, rfl⟩
        · exact ⟨_, _, rfl⟩
      obtain ⟨a, c', hc⟩ := hcut
      have HC := Lib.hid hc
      rw [hc]
      clear hc
      have hrun := run_copy_none (P := Tryz.prog) w 82 82 3 136 a u 0 c' 0 c Tryz.underlying82 info136s rfl
      go_wp2
      go_ret
      refine ⟨_, rfl, ?_, Chg.refl _ _, ?_⟩
      · have := St.cut_zero hz'; rw [HC.out] at this; exact this
      · intro k hk
        left
        rw [← ownBlock_cut, HC.out]; exact hk
    rcases hx with ⟨rfl, _⟩ | ⟨b, cap, rfl, _⟩
    · exact key _ _
    · rw [wlen_zero]; exact key _ _
  · obtain ⟨xb, xc, rfl, h1, h2, h3, h4⟩ := hx.pos h0
    have hp : 0 < wlen X := by have := mt wlen_eq_zero.1 h0; omega
    have H0 := Lib.hid h0
    clear h0
    generalize hl : wlen X = l at *
    have HL := Lib.hid hl
    clear hl
    go_enter Tryz.func83, Tryz.ntmps83
    go_wp2_with fail
    refine (make_any z l w hz hp hX).mono ?_
    rintro e w1 ⟨b, cap, rfl, k1, k2, k3, k4, k5⟩
    have hne : xb ≠ b := by
      rintro rfl
      rcases k5 with k5 | k5
      · exact ho _ rfl k5
      · have := h3.lt; omega
    obtain ⟨w2, hrun, hw⟩ := run_copy_words w1 82 82 3 Tryz.underlying82 b 0 l cap xb 0 l xc l X (by simp) (k3.mono (by omega)) (k4.rd h4 h3.lt (fun h => h))
    go_wp2
    go_ret
    refine ⟨_, rfl, .inr ⟨b, cap, by rw [HL.out]; rfl, by rw [HL.out]; exact k1, k2, hw.wb k3, by rw [HL.out]; exact hw.rd⟩, ?_, ?_⟩
    · refine k4.trans hw.chg (fun _ h => h.elim) (fun k hk e => ?_)
      subst e
      rcases k5 with h5 | h5
      · exact h5
      · omega
    · intro k hk
      simp [Value.ownBlock] at hk
      subst hk
      exact k5
end Go.Proofs.YtbnmgopobmiadaaGreatDoor
