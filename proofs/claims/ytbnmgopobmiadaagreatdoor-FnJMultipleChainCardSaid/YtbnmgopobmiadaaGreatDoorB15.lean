/- Contracts of the stack: getStack, save, restore, nat, free. -/
import Derived.Test.YtbnmgopobmiadaaGreatDoorB13
import Derived.Lib.AppendZerosOnto

set_option linter.unusedSimpArgs false
set_option linter.unusedVariables false

namespace Go.Proofs.YtbnmgopobmiadaaGreatDoor
open Go.RowKit

set_option maxRecDepth 100000 in
theorem getStack_raw (w : World) :
    Calls Tryz.prog 42 #[] w fun e w' => e = .returned (.pointer (some ⟨w.heap.size, 0, none⟩)) ∧ w' = w.alloc (.cells #[.pointer none] 207) := by
  go_enter Tryz.func42, Tryz.ntmps42
  go_wp2
  go_ret
  exact ⟨rfl, rfl⟩
set_option maxRecDepth 100000 in
theorem save_in (w : World) (ib : Nat) (base : Option Addr) (l c : Nat) (h : w.cell? ⟨ib, 0, none⟩ = some (.slice base l c)) :
    Calls Tryz.prog 156 #[.pointer (some ⟨ib, 0, none⟩)] w fun e w' => e = .returned (.int .i64 l) ∧ w = w' := by
  go_enter Tryz.func156, Tryz.ntmps156
  go_wp2
  go_ret
  exact ⟨rfl, rfl⟩
set_option maxRecDepth 100000 in
theorem restore_in (w : World) (ib : Nat) (base : Option Addr) (l c n : Nat) (h : w.cell? ⟨ib, 0, none⟩ = some (.slice base l c)) (hf : w.frozen? ⟨ib, 0, none⟩ = false) (hn : n ≤ c) :
    Calls Tryz.prog 155 #[.pointer (some ⟨ib, 0, none⟩), .int .i64 n] w fun e w' => e = .returned (.tuple #[]) ∧ w' = w.setCell ⟨ib, 0, none⟩ (.slice base n c) := by
  go_enter Tryz.func155, Tryz.ntmps155
  go_wp2
  go_end0
  exact ⟨rfl, rfl⟩

set_option maxRecDepth 100000 in
theorem free_in (w : World) (ib : Nat) (base : Option Addr) (l c : Nat) (h : w.cell? ⟨ib, 0, none⟩ = some (.slice base l c)) (hf : w.frozen? ⟨ib, 0, none⟩ = false) :
    Calls Tryz.prog 81 #[.pointer (some ⟨ib, 0, none⟩)] w fun e w' => e = .returned (.tuple #[]) ∧ w' = w.setCell ⟨ib, 0, none⟩ (.slice base 0 c) := by
  go_enter Tryz.func81, Tryz.ntmps81
  go_wp2
  go_end0
  exact ⟨rfl, rfl⟩
set_option maxRecDepth 100000 in
theorem save_none (w : World) (sb : Nat) (h : w.cell? ⟨sb, 0, none⟩ = some (.pointer none)) :
    Calls Tryz.prog 95 #[.pointer (some ⟨sb, 0, none⟩)] w fun e w' => e = .returned (.int .i64 0) ∧ w = w' := by
  go_enter Tryz.func95, Tryz.ntmps95
  go_wp2
  go_ret
  exact ⟨rfl, rfl⟩
set_option maxRecDepth 100000 in
theorem save_some (w : World) (sb ib : Nat) (base : Option Addr) (l c : Nat) (h : w.cell? ⟨sb, 0, none⟩ = some (.pointer (some ⟨ib, 0, none⟩))) (hi : w.cell? ⟨ib, 0, none⟩ = some (.slice base l c)) :
    Calls Tryz.prog 95 #[.pointer (some ⟨sb, 0, none⟩)] w fun e w' => e = .returned (.int .i64 l) ∧ w = w' := by
  go_enter Tryz.func95, Tryz.ntmps95
  go_wp2_with fail
  refine (save_in w ib base l c hi).mono ?_
  rintro e w' ⟨rfl, rfl⟩
  go_wp2
  go_ret
  exact ⟨rfl, rfl⟩
set_option maxRecDepth 100000 in
theorem restore_none (w : World) (sb n : Nat) (h : w.cell? ⟨sb, 0, none⟩ = some (.pointer none)) :
    Calls Tryz.prog 94 #[.pointer (some ⟨sb, 0, none⟩), .int .i64 n] w fun e w' => e = .returned (.tuple #[]) ∧ w = w' := by
  go_enter Tryz.func94, Tryz.ntmps94
  go_wp2
  refine bodyPost_ret (results_none rfl _ _ _) rfl ?_
  exact ⟨rfl, rfl⟩
set_option maxRecDepth 100000 in
theorem restore_some (w : World) (sb ib : Nat) (base : Option Addr) (l c n : Nat) (h : w.cell? ⟨sb, 0, none⟩ = some (.pointer (some ⟨ib, 0, none⟩))) (hi : w.cell? ⟨ib, 0, none⟩ = some (.slice base l c))
    (hf : w.frozen? ⟨ib, 0, none⟩ = false) (hn : n ≤ c) :
    Calls Tryz.prog 94 #[.pointer (some ⟨sb, 0, none⟩), .int .i64 n] w fun e w' => e = .returned (.tuple #[]) ∧ w' = w.setCell ⟨ib, 0, none⟩ (.slice base n c) := by
  go_enter Tryz.func94, Tryz.ntmps94
  go_wp2_with fail
  refine (restore_in w ib base l c n hi hf hn).mono ?_
  rintro e w' ⟨rfl, rfl⟩
  go_wp2
  go_end0
  exact ⟨rfl, rfl⟩
set_option maxRecDepth 100000 in
theorem free_none (w : World) (sb : Nat) (h : w.cell? ⟨sb, 0, none⟩ = some (.pointer none)) :
    Calls Tryz.prog 43 #[.pointer (some ⟨sb, 0, none⟩)] w fun e w' => e = .returned (.tuple #[]) ∧ w = w' := by
  go_enter Tryz.func43, Tryz.ntmps43
  go_wp2
  go_end0
  exact ⟨rfl, rfl⟩
set_option maxRecDepth 100000 in
theorem free_some (w : World) (sb ib : Nat) (base : Option Addr) (l c : Nat) (h : w.cell? ⟨sb, 0, none⟩ = some (.pointer (some ⟨ib, 0, none⟩))) (hi : w.cell? ⟨ib, 0, none⟩ = some (.slice base l c))
    (hf : w.frozen? ⟨ib, 0, none⟩ = false) :
    Calls Tryz.prog 43 #[.pointer (some ⟨sb, 0, none⟩)] w fun e w' => e = .returned (.tuple #[]) ∧ w' = w.setCell ⟨ib, 0, none⟩ (.slice base 0 c) := by
  go_enter Tryz.func43, Tryz.ntmps43
  go_wp2_with fail
  refine (free_in w ib base l c hi hf).mono ?_
  rintro e w' ⟨rfl, rfl⟩
  go_wp2
  go_end0
  exact ⟨rfl, rfl⟩

/-- a row of c words that may be written, or nothing -/
def Room (w : World) (base : Option Addr) (c : Nat) : Prop := (base = none ∧ c = 0) ∨ ∃ rb, base = some ⟨rb, 0, none⟩ ∧ Wb w rb 0 c
theorem Room.old {w : World} {base : Option Addr} {c : Nat} (h : Room w base c) :
    ∃ cs : List Value, cs.length = c ∧ (Builtin.firstCells 1 c (.slice base c c)).run Tryz.prog w.drew = .ok cs.toArray w.drew := by
  rcases h with ⟨rfl, rfl⟩ | ⟨rb, rfl, hw⟩
  · exact ⟨[], rfl, run_firstCells_none w.drew 1 0 0 0⟩
  · obtain ⟨ca, e, hb, hs⟩ := hw
    have hl : (ca.toList.take c).length = c := by rw [List.length_take]; have : ca.toList.length = ca.size := rfl; omega
    refine ⟨ca.toList.take c, hl, run_firstCells_some w.drew 1 c ⟨rb, 0, none⟩ c c (ca.toList.take c) (by rw [hl, Nat.mul_one]) (fun j v hj => ?_)⟩
    have hjc : j < c := by
      have := (List.getElem?_eq_some_iff.1 hj).1; omega
    rw [List.getElem?_take_of_lt hjc] at hj
    have ea : (⟨rb, 0, none⟩ : Addr).add j = ⟨rb, j, none⟩ := by
      unfold Addr.add; split <;> simp_all
    show World.cell? w _ = some v
    rw [ea]
    simp only [World.cell?, hb]
    simpa using hj
theorem run_grow_zeros (w : World) (t ty : TypeId) (ht : Tryz.prog.underlying t = some (.slice 136)) (htn : Tryz.prog.underlying 3 = some (.int .i64)) (base : Option Addr) (c k : Nat) (h : Room w base c)
    (hk : 0 < k) (hc : c ≤ 9223372036854775807) (hck : c + k ≤ 1000000) :
    ∃ G w', (Builtin.append_ #[t, 3] ty #[.slice base c c, .int .i64 k]).run Tryz.prog w = .ok (.slice (some ⟨w.heap.size, 0, none⟩) (c + k) G) w' ∧ c + k ≤ G ∧ G ≤ 9223372036854775807 ∧
      Wb w' w.heap.size 0 G ∧ Chg (fun _ => False) w w' ∧ w.heap.size < w'.heap.size := by
  obtain ⟨cs, hl, hold⟩ := h.old
  obtain ⟨i0, hi, hz0, hz1, hz2⟩ := info_parts info136
  have hr := Lib.run_append_grow_zeros w t 3 ty 136 i0 (.int .u64 0) .i64 .i64 ht htn hi hz0 base c c cs (by rw [hz1]; exact hold) k hk (by omega) (by omega) (by omega)
    (by rw [hz2]; omega) (growslice_fits (by omega) (by rw [hz2]; omega))
  have hG1 := grownCap_ge w (c + k) c 136
  have hG2 := grownCap_le_maxLen w (c + k) c 136 (by unfold maxLen; omega)
  unfold maxLen at hG2
  refine ⟨_, _, hr, hG1, hG2, ?_, ?_, ?_⟩
  · refine ⟨_, _, heap_alloc_new w.drew _, ?_⟩
    simp only [Array.size_append, Builtin.zeroCells]
    simp [Value.cells, hl]
    omega
  · exact ((Chg.refl _ w).drew).alloc _
  · show w.heap.size < (w.heap.push _).size
    rw [Array.size_push]; omega

set_option maxRecDepth 100000 in
theorem Grow81_room (w : World) (base : Option Addr) (l c n : Nat) (hlc : l ≤ c) (hc : c ≤ 9223372036854775807) (hn : l + n ≤ c) :
    Calls Tryz.prog 191 #[.slice base l c, .int .i64 n] w fun e w' => e = .returned (.slice base l c) ∧ w = w' := by
  go_enter Tryz.func191, Tryz.ntmps191
  go_wp2
  go_ret
  exact ⟨rfl, rfl⟩

/-- the world after a row of room was laid -/
def Grew (base : Option Addr) (l n : Nat) (w : World) (e : Ending) (w' : World) : Prop :=
  ∃ base' c', e = .returned (.slice base' l c') ∧ l + n ≤ c' ∧ c' ≤ 9223372036854775807 ∧ Room w' base' c' ∧ Chg (fun _ => False) w w' ∧ (base' = base ∨ base' = some ⟨w.heap.size, 0, none⟩ ∧ w.heap.size < w'.heap.size)

set_option maxHeartbeats 1000000 in
set_option maxRecDepth 100000 in
theorem Grow81_grow (w : World) (base : Option Addr) (l c n : Nat) (hlc : l ≤ c) (hn : c < l + n) (hln : l + n ≤ 1000000) (hr : Room w base c) :
    Calls Tryz.prog 191 #[.slice base l c, .int .i64 n] w (Grew base l n w) := by
  obtain ⟨G, w', hrz, g1, g2, g3, g4, g5⟩ := run_grow_zeros w 81 81 Tryz.underlying81 Tryz.underlying3 base c (l + n - c) hr (by omega) (by omega) (by omega)
  rw [show c + (l + n - c) = l + n by omega, show ((l + n - c : Nat) : Int) = (n : Int) - ((c : Int) - l) by omega] at hrz
  have HG := Lib.hid (And.intro g3 g4)
  clear g3 g4 hr
  go_enter Tryz.func191, Tryz.ntmps191
  go_wp2_with (at_builtin; refine Lib.wpList_append_run _ rfl _ _ _ _ rfl _ _ rfl rfl _ _ hrz ?_)
  go_ret
  exact ⟨_, _, rfl, by omega, g2, .inr ⟨_, rfl, HG.out.1⟩, HG.out.2, .inr ⟨rfl, g5⟩⟩
theorem Grow81 (w : World) (base : Option Addr) (l c n : Nat) (hlc : l ≤ c) (hc : c ≤ 9223372036854775807) (hln : l + n ≤ 1000000) (hr : Room w base c) :
    Calls Tryz.prog 191 #[.slice base l c, .int .i64 n] w (Grew base l n w) := by
  by_cases h : l + n ≤ c
  · refine (Grow81_room w base l c n hlc hc h).mono ?_
    rintro e w' ⟨rfl, rfl⟩
    exact ⟨_, _, rfl, h, hc, hr, Chg.refl _ _, .inl rfl⟩
  · exact Grow81_grow w base l c n hlc (by omega) hln hr
set_option maxHeartbeats 1000000 in
set_option maxRecDepth 100000 in
theorem Grow82_nil (w : World) (n : Nat) (hn0 : 0 < n) (hn : n ≤ 1000000) :
    Calls Tryz.prog 157 #[.slice none 0 0, .int .i64 n] w fun e w' => ∃ G, e = .returned (.slice (some ⟨w.heap.size, 0, none⟩) 0 G) ∧ n ≤ G ∧ G ≤ 9223372036854775807 ∧ Wb w' w.heap.size 0 G ∧ Chg (fun _ => False) w w' ∧ w.heap.size < w'.heap.size := by
  obtain ⟨G, w', hrz, g1, g2, g3, g4, g5⟩ := run_grow_zeros w 82 82 Tryz.underlying82 Tryz.underlying3 none 0 n (.inl ⟨rfl, rfl⟩) (by omega) (by omega) (by omega)
  have HG := Lib.hid (And.intro g3 g4)
  rw [Nat.zero_add] at *
  clear g3 g4
  go_enter Tryz.func157, Tryz.ntmps157
  go_wp2_with (at_builtin; refine Lib.wpList_append_run _ rfl _ _ _ _ rfl _ _ rfl rfl _ _ hrz ?_)
  go_ret
  exact ⟨_, rfl, g1, g2, HG.out.1, HG.out.2, g5⟩
theorem and_mask4 (m : Nat) (hm : m < 2 ^ 64) : m &&& 18446744073709551612 = m / 4 * 4 := by
  have e1 : (18446744073709551612 : Nat) = (2 ^ 62 - 1) <<< 2 := by rw [Nat.shiftLeft_eq]
  have e2 : m / 4 * 4 = (m >>> 2) <<< 2 := by rw [Nat.shiftLeft_eq, Nat.shiftRight_eq_div_pow]
  rw [e1, e2]
  refine Nat.eq_of_testBit_eq fun i => ?_
  rw [Nat.testBit_and, Nat.testBit_shiftLeft, Nat.testBit_shiftLeft, Nat.testBit_shiftRight, Nat.testBit_two_pow_sub_one]
  by_cases h2 : i ≥ 2
  · rw [show 2 + (i - 2) = i by omega]
    by_cases h64 : i - 2 < 62
    · simp [h2, h64]
    · have : m.testBit i = false := Nat.testBit_lt_two_pow (Nat.lt_of_lt_of_le hm (Nat.pow_le_pow_right (by omega) (by omega)))
      simp [this]
  · simp [h2]
theorem andNot3 (n : Nat) (h : n < 1000000) : ∃ R : Nat, bits .andNot .i64 ((n : Int) + 3) 3 = (R : Int) ∧ n ≤ R ∧ R ≤ n + 3 := by
  refine ⟨(n + 3) / 4 * 4, ?_, by omega, by omega⟩
  have h1 : (BitVec.ofInt 64 ((n : Int) + 3)).toNat = n + 3 := by
    rw [show ((n : Int) + 3) = ((n + 3 : Nat) : Int) by omega, BitVec.ofInt_natCast, BitVec.toNat_ofNat]; exact Nat.mod_eq_of_lt (by omega)
  have h2 : (~~~(BitVec.ofInt 64 3)).toNat = 18446744073709551612 := by rfl
  show IntKind.i64.wrap (((BitVec.ofInt 64 ((n : Int) + 3) &&& ~~~(BitVec.ofInt 64 3)).toNat : Nat) : Int) = _
  rw [BitVec.toNat_and, h1, h2, and_mask4 _ (by omega), IntKind.wrap_i64]
  omega

/-- a block of one cell, which may be written -/
def One (w : World) (b : Nat) (v : Value) : Prop := ∃ e, w.heap[b]? = some (.cells #[v] e (0, 0))
theorem One.cell {w : World} {b : Nat} {v : Value} (h : One w b v) : w.cell? ⟨b, 0, none⟩ = some v := by
  obtain ⟨e, h⟩ := h; simp [World.cell?, h]
theorem One.wb {w : World} {b : Nat} {v : Value} (h : One w b v) : Wb w b 0 1 := by
  obtain ⟨e, h⟩ := h; exact ⟨_, _, h, by simp⟩
theorem One.frozen {w : World} {b : Nat} {v : Value} (h : One w b v) : w.frozen? ⟨b, 0, none⟩ = false := h.wb.frozen 0
theorem One.keep {S : Nat → Prop} {w w' : World} {b : Nat} {v : Value} (h : One w b v) (hc : Chg S w w') (hs : ¬ S b) : One w' b v := by
  obtain ⟨e, h⟩ := h
  exact ⟨e, by rw [hc.keep b (Array.getElem?_eq_some_iff.1 h).1 hs]; exact h⟩
theorem One.set {w : World} {b : Nat} {v : Value} (h : One w b v) (v' : Value) : One (w.setCell ⟨b, 0, none⟩ v') b v' := by
  obtain ⟨e, h⟩ := h
  exact ⟨e, by rw [setCell_block w b 0 v' h]; rfl⟩
theorem One.other {w : World} {b : Nat} {v : Value} (h : One w b v) {a : Addr} (ha : a.block ≠ b) (v' : Value) : One (w.setCell a v') b v :=
  h.keep ((Chg.refl (fun k => k = a.block) w).setCell (fun _ => rfl) v') (fun h => ha h.symm)
theorem cell_set_ne (w : World) (b o : Nat) (v : Value) (k j : Nat) (h : k ≠ b ∨ j ≠ o) : (w.setCell ⟨b, o, none⟩ v).cell? ⟨k, j, none⟩ = w.cell? ⟨k, j, none⟩ := by
  by_cases hk : k = b
  · subst hk
    have hj : j ≠ o := by omega
    cases hh : w.heap[k]? with
    | none =>
      have : (w.setCell ⟨k, o, none⟩ v).heap[k]? = none := by simp [World.setCell, Array.getElem?_modify, hh]
      simp [World.cell?, hh, this]
    | some ob =>
      cases ob with
      | cells c e f =>
        have := setCell_block w k o v hh
        simp only [World.cell?, hh, this]
        rw [Array.getElem?_setIfInBounds_ne (by omega)]
      | _ =>
        have : ∀ ob', (w.setCell ⟨k, o, none⟩ v).heap[k]? = some ob' → ob' = _ := fun ob' h' => by
          simp [World.setCell, Array.getElem?_modify, hh] at h'
          exact h'.symm
        cases h9 : (w.setCell ⟨k, o, none⟩ v).heap[k]? with
        | none => simp [World.setCell, Array.getElem?_modify, hh] at h9
        | some ob' => obtain rfl := this _ h9; simp [World.cell?, hh, h9]
  · simp only [World.cell?]
    rw [Below.heap_setCell w _ v k hk]

set_option maxHeartbeats 1000000 in
set_option maxRecDepth 100000 in
theorem inner_nat (w : World) (ib : Nat) (base : Option Addr) (l c n : Nat) (hI : One w ib (.slice base l c)) (hlc : l ≤ c) (hc : c ≤ 9223372036854775807) (hn0 : 0 < n) (hln : l + n ≤ 900000) (hr : Room w base c)
    (hne : ∀ rb, base = some ⟨rb, 0, none⟩ → rb ≠ ib) :
    Calls Tryz.prog 158 #[.pointer (some ⟨ib, 0, none⟩), .int .i64 n] w fun e w' => ∃ rb l' c', e = .returned (.slice (some ⟨rb, l, none⟩) n n) ∧
      One w' ib (.slice (some ⟨rb, 0, none⟩) l' c') ∧ l + n ≤ l' ∧ l' ≤ l + n + 3 ∧ l' ≤ c' ∧ c' ≤ 9223372036854775807 ∧ Wb w' rb 0 c' ∧ rb ≠ ib ∧ Chg (fun k => k = ib ∨ k = rb) w w' ∧ (∀ b o m, Wb w b o m → Wb w' b o m) ∧
      (base = some ⟨rb, 0, none⟩ ∧ (∀ j, j < l → w'.cell? ⟨rb, j, none⟩ = w.cell? ⟨rb, j, none⟩) ∨ w.heap.size ≤ rb) := by
  obtain ⟨R, hR, hR1, hR2⟩ := andNot3 n (by omega)
  have hcell := hI.cell
  have hib : ib < w.heap.size := by obtain ⟨e, h⟩ := hI; exact (Array.getElem?_eq_some_iff.1 h).1
  have hgrow := Grow81 w base l c R hlc hc (by omega) hr
  have hne' : ∀ rb, base = some ⟨rb, 0, none⟩ → rb < w.heap.size := fun rb h => by
    rcases hr with ⟨h1, _⟩ | ⟨rb', h1, h2⟩
    · rw [h1] at h; cases h
    · rw [h1] at h; injection h with h; injection h with h; subst h; exact h2.lt
  go_enter Tryz.func158, Tryz.ntmps158
  go_wp2_with fail
  refine hgrow.mono ?_
  rintro e w1 ⟨base', c', rfl, g1, g2, g3, g4, g5⟩
  have hI1 := hI.keep g4 (fun h => h)
  obtain ⟨rb, rfl, hwb⟩ : ∃ rb, base' = some ⟨rb, 0, none⟩ ∧ Wb w1 rb 0 c' := by
    rcases g3 with ⟨rfl, h⟩ | h
    · omega
    · exact h
  have hrb : rb ≠ ib := by
    rcases g5 with h | ⟨h, _⟩
    · exact hne rb h.symm
    · injection h with h; injection h with h; omega
  have hf1 := hI1.frozen
  have hc1 := hI1.cell
  have hI2 := hI1.set (.slice (some ⟨rb, 0, none⟩) l c')
  have hf2 := hI2.frozen
  have hc2 := hI2.cell
  have hI3 := hI2.set (.slice (some ⟨rb, 0, none⟩) (l + R) c')
  have hc3 := hI3.cell
  have hwb3 := (hwb.setCell ⟨ib, 0, none⟩ (.slice (some ⟨rb, 0, none⟩) l c')).setCell ⟨ib, 0, none⟩ (.slice (some ⟨rb, 0, none⟩) (l + R) c')
  have hz := hwb3.cell (i := l) (by omega)
  have hzf := hwb3.frozen l
  rw [Nat.zero_add] at hz
  obtain ⟨v0, hz⟩ := hz
  have HW := Lib.hid hwb3
  have HI := Lib.hid hI3
  have HG := Lib.hid (And.intro g4 g5)
  clear hwb3 hI3 g4 g5 g3 hI2 hI1 hI hgrow hr hne hwb
  go_wp2
  go_ret
  obtain ⟨G4, G5⟩ := HG.out
  have e1 : Value.slice (some ⟨rb, l, none⟩) (l + n - l) (l + n - l) = .slice (some ⟨rb, l, none⟩) n n := by rw [Nat.add_sub_cancel_left]
  refine ⟨rb, l + R, c', congrArg Ending.returned e1, HI.out.other (a := ⟨rb, l, none⟩) hrb _, by omega, by omega, by omega, g2, HW.out.setCell _ _, hrb, ?_, fun b o m hw => (((G4.wb hw (fun h => h)).setCell _ _).setCell _ _).setCell _ _, ?_⟩
  · exact (((G4.mono (fun _ _ h => h.elim)).setCell (fun _ => .inl rfl) _).setCell (fun _ => .inl rfl) _).setCell (fun _ => .inr rfl) _
  · rcases G5 with h5 | ⟨h5, h6⟩
    · refine .inl ⟨h5.symm, fun j hj => ?_⟩
      rw [cell_set_ne _ _ _ _ _ _ (.inr (by omega)), cell_set_ne _ _ _ _ _ _ (.inl hrb), cell_set_ne _ _ _ _ _ _ (.inl hrb)]
      have hk : rb < w.heap.size := by
        have h7 := hne' rb h5.symm
        exact h7
      simp only [World.cell?]
      rw [G4.keep rb hk (fun h => h)]
    · injection h5 with h5; injection h5 with h5; exact .inr (by omega)

/-- a stack: S holds at least its own blocks, l words of its row are given away -/
def Stk (w : World) (sb l : Nat) (S : Nat → Prop) : Prop :=
  S sb ∧ ((l = 0 ∧ One w sb (.pointer none)) ∨ ∃ ib base c, One w sb (.pointer (some ⟨ib, 0, none⟩)) ∧ One w ib (.slice base l c) ∧ l ≤ c ∧ c ≤ 9223372036854775807 ∧ Room w base c ∧ ib ≠ sb ∧ S ib ∧
    ∀ rb, base = some ⟨rb, 0, none⟩ → rb ≠ ib ∧ rb ≠ sb ∧ S rb)

/-- what stack.nat gives -/
def SNat (sb l n : Nat) (S : Nat → Prop) (w : World) (e : Ending) (w' : World) : Prop :=
  ∃ b o cap l' S', e = .returned (.slice (some ⟨b, o, none⟩) n cap) ∧ n ≤ cap ∧ cap ≤ 9223372036854775807 ∧ Wb w' b o n ∧ Stk w' sb l' S' ∧ (∀ k, S' k → S k ∨ w.heap.size ≤ k) ∧ (∀ k, S k → S' k) ∧ (¬ S' b ∨ o + n ≤ l') ∧
    l ≤ l' ∧ l' ≤ l + n + 3 ∧ (w.heap.size ≤ b ∨ S b ∧ l ≤ o) ∧ Chg S w w' ∧ (∀ b o m, Wb w b o m → Wb w' b o m) ∧
    (∀ b o m X, b < w.heap.size → Rd w b o m X → (¬ S b ∨ o + m ≤ l) → Rd w' b o m X)

theorem One.lt {w : World} {b : Nat} {v : Value} (h : One w b v) : b < w.heap.size := by
  obtain ⟨e, h⟩ := h; exact (Array.getElem?_eq_some_iff.1 h).1
theorem One.no_word {w : World} {b o m X : Nat} {v : Value} (h : One w b v) (hv : ∀ i, v ≠ wd X i) (hr : Rd w b o m X) : m = 0 := by
  refine Nat.eq_zero_of_not_pos fun hm => ?_
  have h0 := hr 0 hm
  obtain ⟨e, h⟩ := h
  simp only [World.cell?, h, Nat.add_zero] at h0
  by_cases ho : o = 0
  · subst ho; simp at h0; exact hv 0 h0
  · have : (#[v] : Array Value)[o]? = none := by simp; omega
    simp [this] at h0
theorem Chg.wb_all {w w' : World} (h : Chg (fun _ => False) w w') {b o m : Nat} (hw : Wb w b o m) : Wb w' b o m := h.wb hw (fun h => h)

set_option maxHeartbeats 1000000 in
set_option maxRecDepth 100000 in
theorem stack_nat_small (w : World) (sb n : Nat) (S : Nat → Prop) (hS : S sb) (hSl : ∀ k, S k → k < w.heap.size) (h : One w sb (.pointer none)) (hn0 : 0 < n) (hn : n ≤ 4) :
    Calls Tryz.prog 96 #[.pointer (some ⟨sb, 0, none⟩), .int .i64 n] w (SNat sb 0 n S w) := by
  have hcell := h.cell
  have hgrow := Grow82_nil w n hn0 (by omega)
  go_enter Tryz.func96, Tryz.ntmps96
  go_wp2_with fail
  refine hgrow.mono ?_
  rintro e w1 ⟨G, rfl, g1, g2, g3, g4, g5⟩
  obtain ⟨v0, hz⟩ := g3.cell (i := 0) (by omega)
  have hzf := g3.frozen 0
  rw [Nat.add_zero] at hz
  have HG := Lib.hid (And.intro g3 (And.intro g4 (And.intro g5 h)))
  clear g3 g4 g5 h hgrow
  go_wp2
  go_ret
  obtain ⟨g3, g4, g5, h⟩ := HG.out
  refine ⟨w.heap.size, 0, G, 0, S, rfl, g1, g2, (g3.mono (by omega)).setCell _ _, ⟨hS, .inl ⟨rfl, (h.keep g4 (fun h => h)).other (a := ⟨w.heap.size, 0, none⟩) (by have := h.lt; simp only; omega) _⟩⟩, fun k hk => .inl hk, fun k hk => hk,
    .inl (fun hk => by have := hSl _ hk; omega), Nat.le_refl _, by omega, .inl (Nat.le_refl _), (g4.mono (fun _ _ h => h.elim)).setCell (fun h => by simp only at h; omega) _, fun b o m hw => (g4.wb_all hw).setCell _ _,
    fun b o m X hb hr _ i hi => ?_⟩
  rw [cell_set_ne _ _ _ _ _ _ (.inl (by omega))]
  exact (g4.rd hr hb (fun h => h)) i hi
end Go.Proofs.YtbnmgopobmiadaaGreatDoor
