/- Lemmas of the proof of FnJMultipleChain (Mw Mc Mi). -/
import Derived.WalkKit
import Derived.WalkLawsBesides
import Derived.WalkSpells
import Derived.Deep.QuietTactic
import Derived.BigQuiet
import Derived.Lib.Hide
import Derived.Test.YtbnmgopobmiadaaGreatDoorA1

set_option linter.unusedSimpArgs false
set_option linter.unusedVariables false

namespace Go.Proofs.YtbnmgopobmiadaaGreatDoor
open Go.RowKit

/-- The word of a number as a value. -/
def wd (X i : Nat) : Value := .int .u64 (dig X i : Nat)

/-- At block b, from cell o on, n cells read as the words of X. -/
def Rd (w : World) (b o n X : Nat) : Prop := ∀ i, i < n → w.cell? ⟨b, o + i, none⟩ = some (wd X i)

/-- Block b is a plain row of cells that may be written; n of them lie from o on. -/
def Wb (w : World) (b o n : Nat) : Prop := ∃ c e, w.heap[b]? = some (.cells c e (0, 0)) ∧ o + n ≤ c.size

theorem Wb.cell {w : World} {b o n : Nat} (h : Wb w b o n) {i : Nat} (hi : i < n) : ∃ v, w.cell? ⟨b, o + i, none⟩ = some v := by
  obtain ⟨c, e, hb, hs⟩ := h
  refine ⟨c[o + i]'(by omega), ?_⟩
  simp [World.cell?, hb]
theorem Wb.frozen {w : World} {b o n : Nat} (h : Wb w b o n) (j : Nat) : w.frozen? ⟨b, j, none⟩ = false := by
  obtain ⟨c, e, hb, hs⟩ := h
  simp [World.frozen?, hb]
theorem Wb.lt {w : World} {b o n : Nat} (h : Wb w b o n) : b < w.heap.size := by
  obtain ⟨c, e, hb, hs⟩ := h
  exact (Array.getElem?_eq_some_iff.1 hb).1
theorem Wb.mono {w : World} {b o n o' n' : Nat} (h : Wb w b o n) (h' : o' + n' ≤ o + n) : Wb w b o' n' := by
  obtain ⟨c, e, hb, hs⟩ := h
  exact ⟨c, e, hb, by omega⟩
theorem Wb.of_block {w w' : World} {b o n : Nat} (h : Wb w b o n) (hb : w'.heap[b]? = w.heap[b]?) : Wb w' b o n := by
  obtain ⟨c, e, hb', hs⟩ := h
  exact ⟨c, e, hb.trans hb', hs⟩
theorem Rd.of_block {w w' : World} {b o n X : Nat} (h : Rd w b o n X) (hb : w'.heap[b]? = w.heap[b]?) : Rd w' b o n X :=
  fun i hi => (World.cell?_of_block (w := w) (a := ⟨b, o + i, none⟩) hb).trans (h i hi)
theorem Rd.take {w : World} {b o n X m : Nat} (h : Rd w b o n X) (hm : m ≤ n) : Rd w b o m X := fun i hi => h i (by omega)
theorem Rd.drop {w : World} {b o n X k : Nat} (h : Rd w b o n X) (hk : k ≤ n) : Rd w b (o + k) (n - k) (X / B ^ k) := fun i hi => by
  have := h (k + i) (by omega)
  rw [Nat.add_assoc, this, wd, wd, dig_shift, Nat.add_comm k i]
theorem Rd.mod {w : World} {b o n X m : Nat} (h : Rd w b o n X) (hm : n ≤ m) : Rd w b o n (X % B ^ m) := fun i hi => by
  rw [h i hi, wd, wd, dig_mod (by omega)]
theorem Rd.congr {w : World} {b o n X Y : Nat} (h : Rd w b o n X) (he : ∀ i, i < n → dig X i = dig Y i) : Rd w b o n Y := fun i hi => by
  rw [h i hi, wd, wd, he i hi]

/-- The world w' is w, but that at block b, a plain row, the n cells from o on hold the words of Z. -/
structure Wr (w w' : World) (b o n Z : Nat) : Prop where
  os : w'.os = w.os
  tape : w'.tape = w.tape
  output : w'.output = w.output
  size : w'.heap.size = w.heap.size
  other : ∀ k, k ≠ b → w'.heap[k]? = w.heap[k]?
  blk : ∃ c c' e, w.heap[b]? = some (.cells c e (0, 0)) ∧ w'.heap[b]? = some (.cells c' e (0, 0)) ∧ c'.size = c.size ∧
    (∀ j, j < o ∨ o + n ≤ j → c'[j]? = c[j]?) ∧ ∀ i, i < n → c'[o + i]? = some (wd Z i)

theorem Wr.start {w : World} {b o m : Nat} (h : Wb w b o m) (Z : Nat) : Wr w w b o 0 Z := by
  obtain ⟨c, e, hb, _⟩ := h
  exact ⟨rfl, rfl, rfl, rfl, fun _ _ => rfl, c, c, e, hb, hb, rfl, fun _ _ => rfl, fun _ h => absurd h (by omega)⟩
theorem Wr.drewN {w w' : World} {b o n Z : Nat} (h : Wr w w' b o n Z) (k : Nat) : Wr w (w'.drewN k) b o n Z :=
  ⟨h.os, h.tape, h.output, h.size, h.other, h.blk⟩
theorem Wr.drew {w w' : World} {b o n Z : Nat} (h : Wr w w' b o n Z) : Wr w w'.drew b o n Z :=
  ⟨h.os, h.tape, h.output, h.size, h.other, h.blk⟩
theorem Wr.wb {w w' : World} {b o n Z : Nat} (h : Wr w w' b o n Z) {b' o' n' : Nat} (hb : Wb w b' o' n') : Wb w' b' o' n' := by
  by_cases e : b' = b
  · subst e
    obtain ⟨c, c', e, h1, h2, h3, _⟩ := h.blk
    obtain ⟨c1, e1, h4, h5⟩ := hb
    rw [h1] at h4; cases h4
    exact ⟨c', e, h2, by omega⟩
  · exact hb.of_block (h.other _ e)
theorem Wr.cell_out {w w' : World} {b o n Z : Nat} (h : Wr w w' b o n Z) {p : Addr} (hp : p.block ≠ b ∨ p.off < o ∨ o + n ≤ p.off) : w'.cell? p = w.cell? p := by
  by_cases hb : p.block = b
  · have hp' : p.off < o ∨ o + n ≤ p.off := by rcases hp with h | h; exact absurd hb h; exact h
    obtain ⟨c, c', e, h1, h2, h3, h4, _⟩ := h.blk
    subst hb
    simp only [World.cell?, h1, h2]
    rw [h4 _ hp']
  · exact World.cell?_of_block (w := w) (h.other _ hb)
theorem Wr.cell_in {w w' : World} {b o n Z : Nat} (h : Wr w w' b o n Z) {i : Nat} (hi : i < n) : w'.cell? ⟨b, o + i, none⟩ = some (wd Z i) := by
  obtain ⟨c, c', e, h1, h2, h3, h4, h5⟩ := h.blk
  simp only [World.cell?, h2]
  exact h5 i hi
theorem Wr.rd {w w' : World} {b o n Z : Nat} (h : Wr w w' b o n Z) : Rd w' b o n Z := fun _ hi => h.cell_in hi
theorem Wr.rd_out {w w' : World} {b o n Z : Nat} (h : Wr w w' b o n Z) {b' o' n' X : Nat} (hr : Rd w b' o' n' X) (hd : b' ≠ b ∨ o' + n' ≤ o ∨ o + n ≤ o') : Rd w' b' o' n' X := fun i hi => by
  rw [h.cell_out (by dsimp only; omega)]; exact hr i hi

theorem setCell_block (w : World) (b o : Nat) (v : Value) {c : Array Value} {e : TypeId} {f : Nat × Nat} (h : w.heap[b]? = some (.cells c e f)) :
    (w.setCell ⟨b, o, none⟩ v).heap[b]? = some (.cells (c.setIfInBounds o v) e f) := by
  simp [World.setCell, Array.getElem?_modify, h]
theorem setCell_size (w : World) (a : Addr) (v : Value) : (w.setCell a v).heap.size = w.heap.size := by simp [World.setCell]

/-- One word more, at the upper end. -/
theorem Wr.snoc {w w' : World} {b o n Z : Nat} (h : Wr w w' b o n Z) {m : Nat} (hw : Wb w b o m) (hm : n < m) {v : Value} (hv : v = wd Z n) :
    Wr w (w'.setCell ⟨b, o + n, none⟩ v) b o (n + 1) Z := by
  subst hv
  obtain ⟨c, c', e, h1, h2, h3, h4, h5⟩ := h.blk
  obtain ⟨c1, e1, h6, h7⟩ := hw
  rw [h1] at h6; cases h6
  refine ⟨h.os, h.tape, h.output, (setCell_size ..).trans h.size, fun k hk => (Below.heap_setCell _ _ _ _ hk).trans (h.other k hk), c, _, e, h1, setCell_block _ _ _ _ h2, by simpa using h3, fun j hj => ?_, fun i hi => ?_⟩
  · rw [Array.getElem?_setIfInBounds_ne (by omega)]; exact h4 j (by omega)
  · by_cases hin : i = n
    · subst hin; rw [Array.getElem?_setIfInBounds_self_of_lt (by omega)]
    · rw [Array.getElem?_setIfInBounds_ne (by omega)]; exact h5 i (by omega)

/-- One word more, at the lower end. -/
theorem Wr.cons {w w' : World} {b o n Z : Nat} (h : Wr w w' b (o + 1) n (Z / B)) {m : Nat} (hw : Wb w b o m) (hm : 0 < m) {v : Value} (hv : v = wd Z 0) :
    Wr w (w'.setCell ⟨b, o, none⟩ v) b o (n + 1) Z := by
  subst hv
  obtain ⟨c, c', e, h1, h2, h3, h4, h5⟩ := h.blk
  obtain ⟨c1, e1, h6, h7⟩ := hw
  rw [h1] at h6; cases h6
  refine ⟨h.os, h.tape, h.output, (setCell_size ..).trans h.size, fun k hk => (Below.heap_setCell _ _ _ _ hk).trans (h.other k hk), c, _, e, h1, setCell_block _ _ _ _ h2, by simpa using h3, fun j hj => ?_, fun i hi => ?_⟩
  · rw [Array.getElem?_setIfInBounds_ne (by omega)]; exact h4 j (by omega)
  · by_cases hin : i = 0
    · subst hin; rw [Nat.add_zero, Array.getElem?_setIfInBounds_self_of_lt (by omega)]
    · obtain ⟨j, rfl⟩ : ∃ j, i = j + 1 := ⟨i - 1, by omega⟩
      rw [Array.getElem?_setIfInBounds_ne (by omega)]
      have := h5 j (by omega)
      rw [show o + (j + 1) = o + 1 + j by omega, this, wd, wd]
      have e : dig (Z / B) j = dig Z (j + 1) := by have := dig_shift Z 1 j; rwa [Nat.pow_one] at this
      rw [e]
theorem Wr.congr {w w' : World} {b o n Z Z' : Nat} (h : Wr w w' b o n Z) (he : ∀ i, i < n → dig Z i = dig Z' i) : Wr w w' b o n Z' := by
  obtain ⟨c, c', e, h1, h2, h3, h4, h5⟩ := h.blk
  exact ⟨h.os, h.tape, h.output, h.size, h.other, c, c', e, h1, h2, h3, h4, fun i hi => by rw [h5 i hi, wd, wd, he i hi]⟩
theorem Wr.mod {w w' : World} {b o n Z : Nat} (h : Wr w w' b o n Z) : Wr w w' b o n (Z % B ^ n) := h.congr fun _ hi => (dig_mod hi).symm

theorem quiet_same {P : Program} {f : FuncId} {args : Array Value} {w : World} {n : Nat} {v : Value}
    (h : Calls P f args (w.drewN n) fun e w' => e = .returned v ∧ w.drewN n = w') : Calls P f args (w.drewN n) fun e w'' => e = .returned v ∧ ∃ m, w'' = w.drewN m :=
  h.mono fun _ _ ⟨he, hm⟩ => ⟨he, n, hm.symm⟩
end Go.Proofs.YtbnmgopobmiadaaGreatDoor

namespace Go.Proofs.YtbnmgopobmiadaaGreatDoor
open Go.RowKit

theorem one_lt_B : 1 < B := by unfold B; omega
/-- how many words a number has -/
def wlen (X : Nat) : Nat := if h : X = 0 then 0 else wlen (X / B) + 1
termination_by X
decreasing_by exact Nat.div_lt_self (by omega) one_lt_B

theorem wlen_zero : wlen 0 = 0 := by unfold wlen; simp
theorem wlen_pos {X : Nat} (h : X ≠ 0) : wlen X = wlen (X / B) + 1 := by conv => lhs; unfold wlen
                                                                         simp [h]
theorem lt_wlen (X : Nat) : X < B ^ wlen X := by
  induction X using Nat.strongRecOn with
  | _ X ih =>
    by_cases h : X = 0
    · subst h; exact Bpow_pos _
    · rw [wlen_pos h, Nat.pow_succ]
      have := ih (X / B) (Nat.div_lt_self (by omega) one_lt_B)
      exact (Nat.div_lt_iff_lt_mul B_pos).1 this
theorem wlen_ge {X : Nat} (h : X ≠ 0) : B ^ (wlen X - 1) ≤ X := by
  induction X using Nat.strongRecOn with
  | _ X ih =>
    rw [wlen_pos h, Nat.add_sub_cancel]
    by_cases h0 : X / B = 0
    · rw [h0, wlen_zero, Nat.pow_zero]; omega
    · have := ih (X / B) (Nat.div_lt_self (by omega) one_lt_B) h0
      have h1 := (wlen_pos h0)
      rw [show wlen (X / B) = (wlen (X / B) - 1) + 1 by omega, Nat.pow_succ]
      exact (Nat.le_div_iff_mul_le B_pos).1 this
theorem wlen_eq_zero {X : Nat} : wlen X = 0 ↔ X = 0 := by
  constructor
  · intro h; have := lt_wlen X; rw [h, Nat.pow_zero] at this; omega
  · intro h; subst h; exact wlen_zero
theorem wlen_le {X n : Nat} (h : X < B ^ n) : wlen X ≤ n := by
  by_cases h0 : X = 0
  · subst h0; rw [wlen_zero]; omega
  · refine Nat.le_of_not_lt fun hlt => ?_
    have h1 := wlen_ge h0
    have h2 : B ^ n ≤ B ^ (wlen X - 1) := Nat.pow_le_pow_right B_pos (by omega)
    omega
theorem le_wlen {X n : Nat} (h : B ^ n ≤ X) : n < wlen X := by
  refine Nat.lt_of_not_le fun hle => ?_
  have h1 := lt_wlen X
  have h2 : B ^ wlen X ≤ B ^ n := Nat.pow_le_pow_right B_pos hle
  omega
theorem wlen_eq {X n : Nat} (h : X < B ^ (n + 1)) (h' : B ^ n ≤ X) : wlen X = n + 1 := by
  have := wlen_le h; have := le_wlen h'; omega
theorem wlen_mono {X Y : Nat} (h : X ≤ Y) : wlen X ≤ wlen Y := wlen_le (Nat.lt_of_le_of_lt h (lt_wlen Y))
theorem wlen_one {X : Nat} (h0 : X ≠ 0) (h : X < B) : wlen X = 1 := wlen_eq (n := 0) (by simpa using h) (by simp; omega)
theorem top_ne {X : Nat} (h : X ≠ 0) : dig X (wlen X - 1) ≠ 0 := by
  have h1 : 0 < wlen X := by have := mt wlen_eq_zero.1 h; omega
  have h2 := wlen_ge h
  have h3 : X < B ^ (wlen X - 1 + 1) := by rw [Nat.sub_add_cancel h1]; exact lt_wlen X
  rw [dig_top h3]
  intro h4
  have := (Nat.div_eq_zero_iff_lt (Bpow_pos (wlen X - 1))).1 h4
  omega
theorem wlen_lt_of_top {X n : Nat} (h : X < B ^ (n + 1)) (h' : dig X n = 0) : X < B ^ n := by
  rw [dig_top h] at h'
  exact (Nat.div_eq_zero_iff_lt (Bpow_pos n)).1 h'
theorem lt_pow_mul {X Y m n : Nat} (hx : X < B ^ m) (hy : Y < B ^ n) : X * Y < B ^ (m + n) := by
  rw [Nat.pow_add]
  by_cases h : Y = 0
  · subst h; rw [Nat.mul_zero]; exact Nat.mul_pos (Bpow_pos m) (Bpow_pos n)
  · exact Nat.lt_of_lt_of_le (Nat.mul_lt_mul_of_pos_right hx (by omega)) (Nat.mul_le_mul_left _ (by omega))

/-- From w to w' no block of w has turned but those of S. -/
structure Chg (S : Nat → Prop) (w w' : World) : Prop where
  os : w'.os = w.os
  tape : w'.tape = w.tape
  output : w'.output = w.output
  size : w.heap.size ≤ w'.heap.size
  keep : ∀ k, k < w.heap.size → ¬ S k → w'.heap[k]? = w.heap[k]?

theorem Chg.refl (S : Nat → Prop) (w : World) : Chg S w w := ⟨rfl, rfl, rfl, Nat.le_refl _, fun _ _ _ => rfl⟩
theorem Chg.trans {S T U : Nat → Prop} {a b c : World} (h : Chg S a b) (h' : Chg T b c) (hS : ∀ k, S k → U k) (hT : ∀ k, k < a.heap.size → T k → U k) : Chg U a c :=
  ⟨h'.os.trans h.os, h'.tape.trans h.tape, h'.output.trans h.output, Nat.le_trans h.size h'.size, fun k hk hn =>
    (h'.keep k (Nat.lt_of_lt_of_le hk h.size) (fun ht => hn (hT k hk ht))).trans (h.keep k hk (fun hs => hn (hS k hs)))⟩
theorem Chg.mono {S U : Nat → Prop} {a b : World} (h : Chg S a b) (hS : ∀ k, k < a.heap.size → S k → U k) : Chg U a b :=
  ⟨h.os, h.tape, h.output, h.size, fun k hk hn => h.keep k hk (fun hs => hn (hS k hk hs))⟩
theorem Chg.drewN {S : Nat → Prop} {w w' : World} (h : Chg S w w') (n : Nat) : Chg S w (w'.drewN n) := ⟨h.os, h.tape, h.output, h.size, h.keep⟩
theorem Chg.drew {S : Nat → Prop} {w w' : World} (h : Chg S w w') : Chg S w w'.drew := ⟨h.os, h.tape, h.output, h.size, h.keep⟩
theorem Chg.alloc {S : Nat → Prop} {w w' : World} (h : Chg S w w') (o : Obj) : Chg S w (w'.alloc o) :=
  h.trans (T := fun _ => False) ⟨rfl, rfl, rfl, by simp, fun k hk _ => Below.heap_alloc _ _ _ hk⟩ (fun _ h => h) (fun _ _ h => h.elim)
theorem Chg.setCell {S : Nat → Prop} {w w' : World} (h : Chg S w w') {a : Addr} (ha : a.block < w.heap.size → S a.block) (v : Value) : Chg S w (w'.setCell a v) :=
  h.trans (T := fun k => k = a.block) ⟨rfl, rfl, rfl, by simp [World.setCell], fun k _ hn => Below.heap_setCell _ _ _ _ hn⟩ (fun _ h => h) (fun _ hk e => by subst e; exact ha hk)
theorem Wr.chg {w w' : World} {b o n Z : Nat} (h : Wr w w' b o n Z) : Chg (· = b) w w' :=
  ⟨h.os, h.tape, h.output, Nat.le_of_eq h.size.symm, fun k _ hn => h.other k hn⟩
theorem Chg.rd {S : Nat → Prop} {w w' : World} (h : Chg S w w') {b o n X : Nat} (hr : Rd w b o n X) (hb : b < w.heap.size) (hs : ¬ S b) : Rd w' b o n X :=
  hr.of_block (h.keep b hb hs)
theorem Chg.wb {S : Nat → Prop} {w w' : World} (h : Chg S w w') {b o n : Nat} (hr : Wb w b o n) (hs : ¬ S b) : Wb w' b o n :=
  hr.of_block (h.keep b hr.lt hs)
theorem Chg.cell {S : Nat → Prop} {w w' : World} (h : Chg S w w') {a : Addr} {v : Value} (hc : w.cell? a = some v) (hs : ¬ S a.block) : w'.cell? a = some v :=
  (World.cell?_of_block (h.keep a.block (World.block_lt_of_cell? w a hc) hs)).trans hc

theorem Wr.extend {w w' : World} {b o k n Z : Nat} (h : Wr w w' b o k Z) (hkn : k ≤ n) (hr : ∀ j, k ≤ j → j < n → w.cell? ⟨b, o + j, none⟩ = some (wd Z j)) : Wr w w' b o n Z := by
  obtain ⟨c, c', e, h1, h2, h3, h4, h5⟩ := h.blk
  refine ⟨h.os, h.tape, h.output, h.size, h.other, c, c', e, h1, h2, h3, fun j hj => h4 j (by omega), fun i hi => ?_⟩
  by_cases hik : i < k
  · exact h5 i hik
  · rw [h4 (o + i) (by omega)]
    have := hr i (by omega) hi
    simpa [World.cell?, h1] using this
theorem Wr.join {w w1 w2 : World} {b o k m Z : Nat} (h : Wr w w1 b o k Z) (h' : Wr w1 w2 b (o + k) m (Z / B ^ k)) : Wr w w2 b o (k + m) Z := by
  obtain ⟨c, c', e, h1, h2, h3, h4, h5⟩ := h.blk
  obtain ⟨d, d', e', k1, k2, k3, k4, k5⟩ := h'.blk
  rw [h2] at k1; cases k1
  refine ⟨h'.os.trans h.os, h'.tape.trans h.tape, h'.output.trans h.output, h'.size.trans h.size, fun j hj => (h'.other j hj).trans (h.other j hj), c, d', e, h1, k2, k3.trans h3, fun j hj => ?_, fun i hi => ?_⟩
  · rw [k4 j (by omega)]; exact h4 j (by omega)
  · by_cases hik : i < k
    · rw [k4 (o + i) (by omega)]; exact h5 i hik
    · have := k5 (i - k) (by omega)
      rw [show o + k + (i - k) = o + i by omega] at this
      rw [this, wd, wd, dig_shift, show i - k + k = i by omega]

/-- A slice value that may be written: nil, or a row from cell 0 on. -/
def St (w : World) (v : Value) : Prop :=
  v = .slice none 0 0 ∨ ∃ b n cap, v = .slice (some ⟨b, 0, none⟩) n cap ∧ n ≤ cap ∧ cap ≤ 4611686018427387904 ∧ Wb w b 0 cap
/-- A slice value that reads as the number X, without a word 0 at its end. -/
def Nv (w : World) (v : Value) (X : Nat) : Prop :=
  (v = .slice none 0 0 ∧ X = 0) ∨ ∃ b cap, v = .slice (some ⟨b, 0, none⟩) (wlen X) cap ∧ wlen X ≤ cap ∧ cap ≤ 4611686018427387904 ∧ Wb w b 0 cap ∧ Rd w b 0 (wlen X) X
/-- the block of a slice is not among S -/
def Off (S : Nat → Prop) (v : Value) : Prop := ∀ k, v.ownBlock = some k → ¬ S k

theorem Nv.st {w : World} {v : Value} {X : Nat} (h : Nv w v X) : St w v := by
  rcases h with ⟨rfl, _⟩ | ⟨b, cap, rfl, h1, h2, h3, _⟩
  · exact .inl rfl
  · exact .inr ⟨b, _, cap, rfl, h1, h2, h3⟩
theorem St.keep {S : Nat → Prop} {w w' : World} {v : Value} (h : St w v) (hc : Chg S w w') (ho : Off S v) : St w' v := by
  rcases h with rfl | ⟨b, n, cap, rfl, h1, h2, h3⟩
  · exact .inl rfl
  · exact .inr ⟨b, n, cap, rfl, h1, h2, hc.wb h3 (ho b rfl)⟩
theorem Nv.keep {S : Nat → Prop} {w w' : World} {v : Value} {X : Nat} (h : Nv w v X) (hc : Chg S w w') (ho : Off S v) : Nv w' v X := by
  rcases h with h | ⟨b, cap, rfl, h1, h2, h3, h4⟩
  · exact .inl h
  · exact .inr ⟨b, cap, rfl, h1, h2, hc.wb h3 (ho b rfl), hc.rd h4 h3.lt (ho b rfl)⟩
theorem St.lt {w : World} {v : Value} (h : St w v) : ∀ k, v.ownBlock = some k → k < w.heap.size := by
  intro k hk
  rcases h with rfl | ⟨b, n, cap, rfl, h1, h2, h3⟩
  · simp [Value.ownBlock] at hk
  · simp [Value.ownBlock] at hk; subst hk; exact h3.lt
theorem Nv.lt {w : World} {v : Value} {X : Nat} (h : Nv w v X) : ∀ k, v.ownBlock = some k → k < w.heap.size := h.st.lt
/-- a value of a number above 0 lies in a block -/
theorem Nv.pos {w : World} {v : Value} {X : Nat} (h : Nv w v X) (hX : X ≠ 0) :
    ∃ b cap, v = .slice (some ⟨b, 0, none⟩) (wlen X) cap ∧ wlen X ≤ cap ∧ cap ≤ 4611686018427387904 ∧ Wb w b 0 cap ∧ Rd w b 0 (wlen X) X := by
  rcases h with ⟨_, h⟩ | h
  · exact absurd h hX
  · exact h
end Go.Proofs.YtbnmgopobmiadaaGreatDoor

/- The scaling of divLarge: arithmetic. -/
namespace Go.Proofs.YtbnmgopobmiadaaGreatDoor

theorem scale_lt {V n s : Nat} (hn : 0 < n) (hV : V < B ^ n) (ht : dig V (n - 1) * 2 ^ s < B) (hs : s < 64) : V * 2 ^ s < B ^ n := by
  obtain ⟨k, rfl⟩ : ∃ k, n = k + 1 := ⟨n - 1, by omega⟩
  rw [Nat.add_sub_cancel] at ht
  rw [dig_top hV] at ht
  have hB := B_split (s := s) (by omega)
  have hp : 0 < 2 ^ s := Nat.two_pow_pos s
  have h1 : V / B ^ k < 2 ^ (64 - s) := by
    refine Nat.lt_of_mul_lt_mul_right (a := 2 ^ s) ?_
    rw [Nat.mul_comm (2 ^ (64 - s)), ← hB]; exact ht
  have h2 : V < (V / B ^ k + 1) * B ^ k := by
    have := Nat.div_add_mod V (B ^ k)
    have := Nat.mod_lt V (Bpow_pos k)
    rw [Nat.add_mul, Nat.mul_comm]; omega
  have h3 : (V / B ^ k + 1) * B ^ k ≤ 2 ^ (64 - s) * B ^ k := Nat.mul_le_mul_right _ h1
  have h4 : V * 2 ^ s < 2 ^ (64 - s) * B ^ k * 2 ^ s := Nat.mul_lt_mul_of_pos_right (by omega) hp
  have h5 : 2 ^ (64 - s) * B ^ k * 2 ^ s = B ^ (k + 1) := by
    rw [Nat.mul_right_comm, Nat.mul_comm (2 ^ (64 - s)), ← hB, Nat.pow_succ, Nat.mul_comm]
  omega
theorem scale_ge {V n s : Nat} (hn : 0 < n) (hV : V < B ^ n) (ht : B ≤ 2 * (dig V (n - 1) * 2 ^ s)) : B ^ n ≤ 2 * (V * 2 ^ s) := by
  obtain ⟨k, rfl⟩ : ∃ k, n = k + 1 := ⟨n - 1, by omega⟩
  rw [Nat.add_sub_cancel, dig_top hV] at ht
  have h1 : V / B ^ k * B ^ k ≤ V := Nat.div_mul_le_self _ _
  have h2 : B * B ^ k ≤ 2 * (V / B ^ k * 2 ^ s) * B ^ k := Nat.mul_le_mul_right _ ht
  have h3 : 2 * (V / B ^ k * 2 ^ s) * B ^ k = 2 * (V / B ^ k * B ^ k * 2 ^ s) := by
    rw [Nat.mul_assoc, Nat.mul_right_comm]
  have h4 : V / B ^ k * B ^ k * 2 ^ s ≤ V * 2 ^ s := Nat.mul_le_mul_right _ h1
  rw [Nat.pow_succ, Nat.mul_comm]
  omega
theorem scale_top {U V m n s : Nat} (hn : 0 < n) (hU : U < B ^ (m + n)) (hV : V * 2 ^ s < B ^ n) (h2 : B ^ n ≤ 2 * (V * 2 ^ s)) (hs : s < 64) :
    dig (U * 2 ^ s) (m + n) < dig (V * 2 ^ s) (n - 1) := by
  have h3 := top_half hn h2 hV
  have h4 : 2 ^ s ≤ 2 ^ 63 := Nat.pow_le_pow_right (by omega) (by omega)
  have h5 : U * 2 ^ s / B ^ (m + n) < 2 ^ s := by
    refine (Nat.div_lt_iff_lt_mul (Bpow_pos _)).2 ?_
    rw [Nat.mul_comm (2 ^ s)]
    exact Nat.mul_lt_mul_of_pos_right hU (Nat.two_pow_pos s)
  have h6 : dig (U * 2 ^ s) (m + n) ≤ U * 2 ^ s / B ^ (m + n) := Nat.mod_le _ _
  have h7 : B = 2 * 2 ^ 63 := by unfold B; rfl
  omega
theorem scale_fit {U V m n s : Nat} (hn : 0 < n) (hU : U < B ^ (m + n)) (hV : B ^ (n - 1) ≤ V) : U * 2 ^ s < V * 2 ^ s * B ^ (m + 1) := by
  have h1 : B ^ (m + n) = B ^ (n - 1) * B ^ (m + 1) := by rw [← Nat.pow_add]; congr 1; omega
  have h2 : B ^ (n - 1) * B ^ (m + 1) ≤ V * B ^ (m + 1) := Nat.mul_le_mul_right _ hV
  rw [Nat.mul_right_comm]
  exact Nat.mul_lt_mul_of_pos_right (by omega) (Nat.two_pow_pos s)
theorem scale_div (U V s : Nat) : U * 2 ^ s / (V * 2 ^ s) = U / V := Nat.mul_div_mul_right _ _ (Nat.two_pow_pos s)
theorem scale_mod (U V s : Nat) : U * 2 ^ s % (V * 2 ^ s) = U % V * 2 ^ s := Nat.mul_mod_mul_right _ _ _
theorem scale_word {U k s : Nat} (hU : U < B ^ k) (hs : s < 64) : U * 2 ^ s < B ^ (k + 1) := by
  rw [Nat.pow_succ]
  refine Nat.mul_lt_mul_of_lt_of_le hU ?_ B_pos
  rw [B_eq]; exact Nat.pow_le_pow_right (by omega) (by omega)
end Go.Proofs.YtbnmgopobmiadaaGreatDoor
