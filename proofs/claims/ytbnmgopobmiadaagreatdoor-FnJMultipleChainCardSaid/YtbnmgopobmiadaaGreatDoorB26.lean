/- Small contracts: Int.Cmp, NewInt, natOne, natFive, intOne, Sign. -/
import Derived.Test.YtbnmgopobmiadaaGreatDoorB22
import Derived.Test.YtbnmgopobmiadaaGreatDoorB8
import Derived.Deep.LoopGhost

set_option linter.unusedSimpArgs false
set_option linter.unusedVariables false

namespace Go.Proofs.YtbnmgopobmiadaaGreatDoor
open Go.RowKit

theorem Nv.new (w : World) (x : Nat) (h0 : x ≠ 0) (hx : x < B) : Nv (w.alloc (.cells #[.int .u64 (x : Nat)] 136)) (.slice (some ⟨w.heap.size, 0, none⟩) 1 1) x := by
  have hh := heap_alloc_new w (.cells #[.int .u64 (x : Nat)] 136)
  generalize w.alloc (.cells #[.int .u64 (x : Nat)] 136) = w' at *
  refine .inr ⟨w.heap.size, 1, by rw [wlen_one h0 hx], by rw [wlen_one h0 hx]; omega, by omega, ⟨_, _, hh, by simp⟩, fun i hi => ?_⟩
  rw [wlen_one h0 hx] at hi
  obtain rfl : i = 0 := by omega
  simp [World.cell?, hh, wd, dig_zero, Nat.mod_eq_of_lt hx]
theorem pair_new (w : World) (x y : Value) (e : TypeId) : Pair (w.alloc (.cells #[x, y] e)) w.heap.size x y := ⟨e, heap_alloc_new w _⟩
theorem alloc_size (w : World) (o : Obj) : (w.alloc o).heap.size = w.heap.size + 1 := by show (w.heap.push _).size = _; rw [Array.size_push]

set_option maxRecDepth 100000 in
theorem natOne (w : World) : Calls Tryz.prog 136 #[] w fun e w' => e = .returned (.slice (some ⟨w.heap.size, 0, none⟩) 1 1) ∧ w' = w.alloc (.cells #[.int .u64 1] 136) := by
  go_enter Tryz.func136, Tryz.ntmps136
  go_wp2
  go_ret
  exact ⟨rfl, rfl⟩
set_option maxRecDepth 100000 in
theorem natFive (w : World) : Calls Tryz.prog 45 #[] w fun e w' => e = .returned (.slice (some ⟨w.heap.size, 0, none⟩) 1 1) ∧ w' = w.alloc (.cells #[.int .u64 5] 136) := by
  go_enter Tryz.func45, Tryz.ntmps45
  go_wp2
  go_ret
  exact ⟨rfl, rfl⟩
set_option maxRecDepth 100000 in
theorem newInt0 (w : World) : Calls Tryz.prog 75 #[.int .i64 0] w fun e w' => e = .returned (.pointer (some ⟨w.heap.size, 0, none⟩)) ∧ w' = w.alloc (.cells #[.bool false, .slice none 0 0] 84) := by
  go_enter Tryz.func75, Tryz.ntmps75
  go_wp2
  go_ret
  exact ⟨rfl, rfl⟩
theorem Im.new (w : World) : Im (w.alloc (.cells #[.bool false, .slice none 0 0] 84)) w.heap.size false (.slice none 0 0) 0 :=
  ⟨pair_new w _ _ _, .inl ⟨rfl, rfl⟩, by simp [Value.ownBlock]⟩
set_option maxRecDepth 100000 in
theorem intOne (w : World) : Calls Tryz.prog 78 #[] w fun e w' => ∃ b v, e = .returned (.pointer (some ⟨b, 0, none⟩)) ∧ Im w' b false v 1 ∧ Chg (fun _ => False) w w' ∧ w.heap.size ≤ b := by
  go_enter Tryz.func78, Tryz.ntmps78
  go_wp2_with fail
  refine (natOne w).mono ?_
  rintro e w1 ⟨rfl, rfl⟩
  go_wp2
  go_ret
  have hc : Chg (fun _ => False) w (w.alloc (.cells #[.int .u64 1] 136)) := (Chg.refl _ w).alloc _
  have hp := pair_new (w.alloc (.cells #[.int .u64 1] 136)) (.bool false) (.slice (some ⟨w.heap.size, 0, none⟩) 1 1) 84
  rw [alloc_size] at hp
  refine ⟨_, _, rfl, ⟨hp, (Nv.new w 1 (by omega) (by unfold B; omega)).keep ((Chg.refl (fun _ => False) _).alloc _) (fun _ _ h => h), ?_⟩, hc.alloc _, ?_⟩
  · simp [Value.ownBlock]
  · omega

set_option maxHeartbeats 4000000 in
set_option maxRecDepth 100000 in
theorem intCmp (bx b_y : Nat) (vx vy : Value) (X Y : Nat) (w : World) (hx : Im w bx false vx X) (hy : Im w b_y false vy Y) (hX : wlen X ≤ 10000) (hY : wlen Y ≤ 10000) (hne : bx ≠ b_y) :
    Calls Tryz.prog 77 #[.pointer (some ⟨bx, 0, none⟩), .pointer (some ⟨b_y, 0, none⟩)] w (Drawn (.int .i64 (cmpN X Y)) w) := by
  have c0 := hx.blk.c0
  have c1 := hx.blk.c1
  have d0 := hy.blk.c0
  have d1 := hy.blk.c1
  have hcmp : ∀ k, Calls Tryz.prog 126 #[vx, vy] (w.drewN k) (Drawn (.int .i64 (cmpN X Y)) (w.drewN k)) := fun k => cmp_any vx vy X Y (w.drewN k) hx.nv hy.nv (by omega) (by omega)
  have heq := eql96 (a := ⟨bx, 0, none⟩) (b := ⟨b_y, 0, none⟩) w hne hx.ir.pl hy.ir.pl
  have HC := Lib.hid hcmp
  clear hx hy hX hY
  generalize cmpN X Y = c at *
  go_enter Tryz.func77, Tryz.ntmps77
  go_wp2
  go_quiet (fail)
  go_wp2
  go_quiet ((go_at_call 126; refine quiet_drawn (HC.out _)))
  go_wp2
  go_ret
  exact ⟨rfl, _, rfl⟩
end Go.Proofs.YtbnmgopobmiadaaGreatDoor

/- strings.Reader: NewReader, ReadByte, UnreadByte. -/
namespace Go.Proofs.YtbnmgopobmiadaaGreatDoor
open Go.RowKit

/-- block b is a Reader of s, at i -/
def Rdr (w : World) (b : Nat) (s : ByteArray) (i : Nat) (p : Int) : Prop := ∃ e, w.heap[b]? = some (.cells #[.string s, .int .i64 i, .int .i64 p] e (0, 0))

set_option maxRecDepth 100000 in
theorem newReader (s : ByteArray) (w : World) : Calls Tryz.prog 36 #[.string s] w fun e w' => e = .returned (.pointer (some ⟨w.heap.size, 0, none⟩)) ∧ Rdr w' w.heap.size s 0 (-1) ∧ Chg (fun _ => False) w w' := by
  go_enter Tryz.func36, Tryz.ntmps36
  go_wp2
  go_ret
  exact ⟨rfl, ⟨_, heap_alloc_new w _⟩, (Chg.refl _ w).alloc _⟩

theorem Rdr.c0 {w : World} {b : Nat} {s : ByteArray} {i : Nat} {p : Int} (h : Rdr w b s i p) : w.cell? ⟨b, 0, none⟩ = some (.string s) := by
  obtain ⟨e, h⟩ := h; simp [World.cell?, h]
theorem Rdr.c1 {w : World} {b : Nat} {s : ByteArray} {i : Nat} {p : Int} (h : Rdr w b s i p) : w.cell? ⟨b, 1, none⟩ = some (.int .i64 i) := by
  obtain ⟨e, h⟩ := h; simp [World.cell?, h]
theorem Rdr.c2 {w : World} {b : Nat} {s : ByteArray} {i : Nat} {p : Int} (h : Rdr w b s i p) : w.cell? ⟨b, 2, none⟩ = some (.int .i64 p) := by
  obtain ⟨e, h⟩ := h; simp [World.cell?, h]
theorem Rdr.frozen {w : World} {b : Nat} {s : ByteArray} {i : Nat} {p : Int} (h : Rdr w b s i p) (j : Nat) : w.frozen? ⟨b, j, none⟩ = false := by
  obtain ⟨e, h⟩ := h; simp [World.frozen?, h]
theorem Rdr.set1 {w : World} {b : Nat} {s : ByteArray} {i : Nat} {p : Int} (h : Rdr w b s i p) (j : Nat) : Rdr (w.setCell ⟨b, 1, none⟩ (.int .i64 j)) b s j p := by
  obtain ⟨e, h⟩ := h
  exact ⟨e, (setCell_block _ _ _ _ h).trans (by simp)⟩
theorem Rdr.set2 {w : World} {b : Nat} {s : ByteArray} {i : Nat} {p : Int} (h : Rdr w b s i p) (q : Int) : Rdr (w.setCell ⟨b, 2, none⟩ (.int .i64 q)) b s i q := by
  obtain ⟨e, h⟩ := h
  exact ⟨e, (setCell_block _ _ _ _ h).trans (by simp)⟩
theorem Rdr.drewN {w : World} {b : Nat} {s : ByteArray} {i : Nat} {p : Int} (h : Rdr w b s i p) (k : Nat) : Rdr (w.drewN k) b s i p := h

theorem Rdr.chg {w : World} (b j : Nat) (v v' : Value) (k : Nat) : Chg (fun k => k = b) w (((w.setCell ⟨b, 2, none⟩ v).drewN k).setCell ⟨b, j, none⟩ v') :=
  (((Chg.refl (fun k => k = b) w).setCell (a := ⟨b, 2, none⟩) (fun _ => rfl) v).drewN k).setCell (a := ⟨b, j, none⟩) (fun _ => rfl) v'

/-- a byte is read, or the end is found -/
def ReadB (b : Nat) (s : ByteArray) (i : Nat) (eof : Value) (w : World) (e : Ending) (w' : World) : Prop :=
  Chg (fun k => k = b) w w' ∧ ((∃ hi : i < s.size, e = .returned (.tuple #[.int .u8 (s[i]'hi).toNat, .nilIface]) ∧ Rdr w' b s (i + 1) (-1)) ∨ (i = s.size ∧ e = .returned (.tuple #[.int .u8 0, eof]) ∧ Rdr w' b s i (-1)))

set_option maxRecDepth 100000 in
theorem readByte (b : Nat) (s : ByteArray) (i : Nat) (p : Int) (eof : Value) (w : World) (h : Rdr w b s i p) (hi : i ≤ s.size) (hs : s.size ≤ 1000000) (hE : w.cell? ⟨0, 0, none⟩ = some eof) (hb : b ≠ 0) :
    Calls Tryz.prog 38 #[.pointer (some ⟨b, 0, none⟩)] w (ReadB b s i eof w) := by
  have c2 := h.c2
  have f2 := h.frozen 2
  have h2 := h.set2 (-1)
  have d0 := h2.c0
  have d1 := h2.c1
  have d2 := h2.frozen 1
  have hE2 : (w.setCell ⟨b, 2, none⟩ (.int .i64 (-1))).cell? ⟨0, 0, none⟩ = some eof := by rw [cell_set_ne _ _ _ _ _ _ (.inl hb.symm)]; exact hE
  have z : ∀ k, Rdr (((w.setCell ⟨b, 2, none⟩ (.int .i64 (-1))).drewN k).setCell ⟨b, 1, none⟩ (.int .i64 ((i : Int) + 1))) b s (i + 1) (-1) := fun k => Rdr.set1 (h2.drewN k) (i + 1)
  have HZ := Lib.hid (And.intro h2 z)
  clear h z h2
  by_cases hlt : i < s.size
  · have hlt' : ¬ (s.size : Int) ≤ i := by omega
    go_enter Tryz.func38, Tryz.ntmps38
    go_wp2
    go_quiet (fail)
    go_wp2
    go_quiet (fail)
    go_wp2
    go_ret2
    exact ⟨Rdr.chg b 1 _ _ _, .inl ⟨hlt, rfl, HZ.out.2 _⟩⟩
  · obtain rfl : i = s.size := by omega
    go_enter Tryz.func38, Tryz.ntmps38
    go_wp2
    go_quiet (fail)
    go_wp2
    go_quiet (fail)
    go_wp2
    go_ret2
    exact ⟨(((Chg.refl (fun k => k = b) w).setCell (a := ⟨b, 2, none⟩) (fun _ => rfl) _).drewN _).drewN _, .inr ⟨rfl, rfl, (HZ.out.1.drewN _).drewN _⟩⟩

set_option maxRecDepth 100000 in
theorem unreadByte (b : Nat) (s : ByteArray) (i : Nat) (p : Int) (w : World) (h : Rdr w b s (i + 1) p) (hi : i < s.size) (hs : s.size ≤ 1000000) :
    Calls Tryz.prog 280 #[.pointer (some ⟨b, 0, none⟩)] w fun e w' => e = .returned .nilIface ∧ Rdr w' b s i (-1) ∧ Chg (fun k => k = b) w w' := by
  have c1 := h.c1
  have c2 := h.c2
  have f2 := h.frozen 2
  have h2 := h.set2 (-1)
  have d1 := h2.c1
  have d2 := h2.frozen 1
  have z := h2.set1 i
  rw [Int.natCast_add] at c1 d1
  have e1 : ((i : Int) + ((1 : Nat) : Int)) = (i : Int) + 1 := rfl
  rw [e1] at c1 d1
  have hle : ¬ (i : Int) + 1 ≤ 0 := by omega
  have HZ := Lib.hid z
  clear h z h2
  go_enter Tryz.func280, Tryz.ntmps280
  go_wp2
  go_ret
  exact ⟨rfl, HZ.out, ((Chg.refl (fun k => k = b) w).setCell (a := ⟨b, 2, none⟩) (fun _ => rfl) _).setCell (a := ⟨b, 1, none⟩) (fun _ => rfl) _⟩
end Go.Proofs.YtbnmgopobmiadaaGreatDoor

/- maxPow, pow at the base 10; scanSign. -/
namespace Go.Proofs.YtbnmgopobmiadaaGreatDoor
open Go.RowKit

set_option maxRecDepth 100000 in
theorem maxPow (w : World) : Calls Tryz.prog 69 #[.int .u64 10] w fun e w' => e = .returned (.tuple #[.int .u64 10000000000000000000, .int .i64 19]) ∧ w = w' := by
  go_enter Tryz.func69, Tryz.ntmps69
  go_wp2
  go_loop [2, 3] (fun pv nv => ∃ k : Nat, 1 ≤ k ∧ k ≤ 19 ∧ pv = .int .u64 (10 ^ k : Nat) ∧ nv = .int .i64 k) (fun _ nv => (20 - intOf nv).toNat)
  case atStart => exact ⟨1, by omega, by omega, rfl, rfl⟩
  case round =>
    obtain ⟨k, h1, h2, rfl, rfl⟩ := hrel
    by_cases hk : k = 19
    · subst hk
      have e1 : ((10 ^ 19 : Nat) : Int) = 10000000000000000000 := by decide
      rw [e1]
      go_wp2
      go_ret2
      exact ⟨rfl, rfl⟩
    · have hp : 10 ^ k ≤ 10 ^ 18 := Nat.pow_le_pow_right (by omega) (by omega)
      have hp' : (10 : Nat) ^ 18 = 1000000000000000000 := by decide
      obtain ⟨x, hx⟩ : ∃ x, x = 10 ^ k := ⟨_, rfl⟩
      have hx1 : 10 ^ (k + 1) = x * 10 := by rw [hx, Nat.pow_succ]
      rw [← hx] at hp ⊢
      have hle : (x : Int) ≤ 1844674407370955161 := by omega
      have hw : IntKind.u64.wrap ((x : Int) * 10) = (x : Int) * 10 := by rw [IntKind.wrap_u64]; omega
      clear hp hp'
      have HX := Lib.hid hx1
      clear hx hx1
      go_wp2
      go_round
      case rel => exact ⟨k + 1, by omega, by omega, by rw [HX.out]; rfl, rfl⟩
      case measure => simp [intOf]; omega

theorem meth_read (b : Nat) (w : World) : (method 587 119 (.pointer (some ⟨b, 0, none⟩)) "ReadByte").run Tryz.prog w = .ok (38, .pointer (some ⟨b, 0, none⟩)) w := by kernel_rfl
theorem meth_unread (b : Nat) (w : World) : (method 587 119 (.pointer (some ⟨b, 0, none⟩)) "UnreadByte").run Tryz.prog w = .ok (280, .pointer (some ⟨b, 0, none⟩)) w := by kernel_rfl

/-- the Reader as an interface -/
def rdv (b : Nat) : Value := .iface 119 (.pointer (some ⟨b, 0, none⟩))
set_option maxRecDepth 100000 in
theorem scanSign_minus (b : Nat) (s : ByteArray) (i : Nat) (p : Int) (eof : Value) (w : World) (h : Rdr w b s i p) (hi : i < s.size) (hs : s.size ≤ 1000000) (hE : w.cell? ⟨0, 0, none⟩ = some eof) (hb : b ≠ 0) (hc : s[i] = 45) :
    Calls Tryz.prog 40 #[rdv b] w fun e w' => e = .returned (.tuple #[.bool true, .nilIface]) ∧ Rdr w' b s (i + 1) (-1) ∧ Chg (fun k => k = b) w w' := by
  have hm := meth_read b
  have hrd := readByte b s i p eof w h (by omega) hs hE hb
  unfold rdv
  clear h hE
  go_enter Tryz.func40, Tryz.ntmps40
  go_wp2_with fail
  refine hrd.mono ?_
  rintro e w1 ⟨hch, ⟨hi', rfl, hr⟩ | ⟨h0, _⟩⟩
  · rw [hc]
    have HR := Lib.hid (And.intro hr hch)
    clear hr hch hrd
    go_wp2
    go_ret2
    exact ⟨rfl, HR.out⟩
  · omega
set_option maxRecDepth 100000 in
theorem scanSign_none (b : Nat) (s : ByteArray) (i : Nat) (p : Int) (eof : Value) (w : World) (h : Rdr w b s i p) (hi : i < s.size) (hs : s.size ≤ 1000000) (hE : w.cell? ⟨0, 0, none⟩ = some eof) (hb : b ≠ 0) (hc : s[i] ≠ 45) (hc2 : s[i] ≠ 43) :
    Calls Tryz.prog 40 #[rdv b] w fun e w' => e = .returned (.tuple #[.bool false, .nilIface]) ∧ Rdr w' b s i (-1) ∧ Chg (fun k => k = b) w w' := by
  have hm := meth_read b
  have hm2 := meth_unread b
  have hrd := readByte b s i p eof w h (by omega) hs hE hb
  unfold rdv
  clear h hE
  have e1 : (((s[i]).toNat : Int) == 45) = false := beq_eq_false_iff_ne.2 (fun e => hc (UInt8.toNat_inj.1 (by have h45 : (45 : UInt8).toNat = 45 := rfl; omega)))
  have e2 : (((s[i]).toNat : Int) == 43) = false := beq_eq_false_iff_ne.2 (fun e => hc2 (UInt8.toNat_inj.1 (by have h43 : (43 : UInt8).toNat = 43 := rfl; omega)))
  go_enter Tryz.func40, Tryz.ntmps40
  go_wp2_with fail
  refine hrd.mono ?_
  rintro e w1 ⟨hch, ⟨hi', rfl, hr⟩ | ⟨h0, _⟩⟩
  · have hun := unreadByte b s i (-1) w1 hr hi hs
    obtain ⟨c, hcc⟩ : ∃ c, c = (s[i]).toNat := ⟨_, rfl⟩
    rw [← hcc] at e1 e2 ⊢
    have HR := Lib.hid hch
    clear hr hch hrd hc hc2 hcc
    go_wp2_with fail
    refine hun.mono ?_
    rintro e w2 ⟨rfl, h1, h2⟩
    have HS := Lib.hid (And.intro h1 (HR.out.trans h2 (fun _ h => h) (fun _ _ h => h)))
    clear h1 h2 hun
    go_wp2
    go_ret2
    exact ⟨rfl, HS.out⟩
  · omega

theorem pow_step (p x n : Nat) : p * x ^ n = (if n % 2 = 1 then p * x else p) * (x * x) ^ (n / 2) := by
  have h := Nat.div_add_mod n 2
  have h2 : (x * x) ^ (n / 2) = x ^ (2 * (n / 2)) := by rw [Nat.pow_mul, Nat.pow_two]
  rw [h2]
  split
  · rename_i h1
    rw [Nat.mul_assoc, ← Nat.pow_succ']
    congr 2; omega
  · congr 2; omega
theorem mod_mul_pow {P Q x y n m : Nat} (hp : P % m = Q % m) (hx : x % m = y % m) : P * x ^ n % m = Q * y ^ n % m := by
  rw [Nat.mul_mod, Nat.pow_mod, hp, hx, ← Nat.pow_mod, ← Nat.mul_mod]
theorem and_one_i64 (n : Nat) (h : n < 1000000) : bits .and .i64 (n : Int) 1 = ((n % 2 : Nat) : Int) := by
  have h1 : (BitVec.ofInt 64 (n : Int)).toNat = n := by
    rw [BitVec.ofInt_natCast, BitVec.toNat_ofNat]; exact Nat.mod_eq_of_lt (by omega)
  have h2 : (BitVec.ofInt 64 1).toNat = 1 := by rfl
  show IntKind.i64.wrap (((BitVec.ofInt 64 (n : Int) &&& BitVec.ofInt 64 1).toNat : Nat) : Int) = _
  rw [BitVec.toNat_and, h1, h2, Nat.and_one_is_mod, IntKind.wrap_i64]
  omega
theorem wrap_mul_word (a b : Nat) : IntKind.u64.wrap ((a : Int) * b) = ((a * b % B : Nat) : Int) := by
  rw [← Int.natCast_mul, IntKind.wrap_u64, Int.natCast_emod]; rfl
set_option maxRecDepth 100000 in
theorem pow10 (k : Nat) (hk : k ≤ 18) (w : World) : Calls Tryz.prog 71 #[.int .u64 10, .int .i64 k] w fun e w' => e = .returned (.int .u64 (10 ^ k : Nat)) ∧ w = w' := by
  go_enter Tryz.func71, Tryz.ntmps71
  go_wp2
  go_loop [0, 1, 4] (fun xv nv pv => ∃ x n p : Nat, xv = .int .u64 x ∧ nv = .int .i64 n ∧ pv = .int .u64 p ∧ n ≤ 18 ∧ x < B ∧ p < B ∧ p * x ^ n % B = 10 ^ k % B) (fun _ nv _ => (intOf nv).toNat)
  case atStart => exact ⟨10, k, 1, rfl, rfl, rfl, hk, by unfold B; omega, one_lt_B, by rw [Nat.one_mul]⟩
  case round =>
    obtain ⟨x, n, p, rfl, rfl, rfl, hn, hx, hp, hI⟩ := hrel
    by_cases h0 : n = 0
    · subst h0
      have hpk : p = 10 ^ k := by
        have h1 : 10 ^ k ≤ 10 ^ 18 := Nat.pow_le_pow_right (by omega) hk
        have h2 : (10 : Nat) ^ 18 = 1000000000000000000 := by decide
        rw [Nat.pow_zero, Nat.mul_one, Nat.mod_eq_of_lt hp, Nat.mod_eq_of_lt (by unfold B; omega)] at hI
        exact hI
      have HP := Lib.hid hpk
      clear hpk hI
      go_wp2
      go_ret
      have hz : ((p : Nat) : Int) = 10 ^ k := by rw [HP.out]; push_cast; rfl
      exact ⟨by rw [← hz]; rfl, rfl⟩
    · have g1 : (0 : Int) < n := by omega
      have ha := and_one_i64 n (by omega)
      have w1 := wrap_mul_word p x
      have w2 := wrap_mul_word x x
      have hst := pow_step p x n
      have HI := Lib.hid (And.intro hI (And.intro hst (And.intro hx hp)))
      clear hI hst hx hp
      by_cases h1 : n % 2 = 1
      · have e1 : (((n % 2 : Nat) : Int) != 0) = true := by rw [h1]; rfl
        obtain ⟨m2, hm2⟩ : ∃ m, m = n % 2 := ⟨_, rfl⟩
        rw [← hm2] at ha e1
        clear hm2
        go_wp2
        obtain ⟨hI, hst, hx, hp⟩ := HI.out
        refine ⟨⟨x * x % B, n / 2, p * x % B, by push_cast; rfl, by push_cast; rfl, by push_cast; rfl, by omega, Nat.mod_lt _ B_pos, Nat.mod_lt _ B_pos, ?_⟩, by simp [intOf]; omega⟩
        rw [← hI, hst, if_pos h1]
        exact mod_mul_pow (Nat.mod_mod _ _) (Nat.mod_mod _ _)
      · have e1 : (((n % 2 : Nat) : Int) != 0) = false := by rw [show n % 2 = 0 by omega]; rfl
        obtain ⟨m2, hm2⟩ : ∃ m, m = n % 2 := ⟨_, rfl⟩
        rw [← hm2] at ha e1
        clear hm2
        go_wp2
        obtain ⟨hI, hst, hx, hp⟩ := HI.out
        refine ⟨⟨x * x % B, n / 2, p, by push_cast; rfl, by push_cast; rfl, by push_cast; rfl, by omega, Nat.mod_lt _ B_pos, hp, ?_⟩, by simp [intOf]; omega⟩
        rw [← hI, hst, if_neg h1]
        exact mod_mul_pow rfl (Nat.mod_mod _ _)
end Go.Proofs.YtbnmgopobmiadaaGreatDoor

/- nat.scan on the mantissa of a decimal. -/
namespace Go.Proofs.YtbnmgopobmiadaaGreatDoor
open Go.RowKit

/-- the byte at a place -/
def byt (s : ByteArray) (q : Nat) : Nat := if h : q < s.size then (s[q]'h).toNat else 0
theorem byt_in {s : ByteArray} {q : Nat} (h : q < s.size) : (s[q]'h).toNat = byt s q := by rw [byt, dif_pos h]
/-- the number that the digits from i on write, up to a place; a point is passed over -/
def numTo (s : ByteArray) (i : Nat) : Nat → Nat
  | 0 => 0
  | n + 1 => if byt s (i + n) = 46 then numTo s i n else numTo s i n * 10 + (byt s (i + n) - 48)
/-- how many digits these are -/
def cntTo (s : ByteArray) (i : Nat) : Nat → Nat
  | 0 => 0
  | n + 1 => if byt s (i + n) = 46 then cntTo s i n else cntTo s i n + 1

/-- from i on n bytes are a mantissa, the point (if any) at i + d -/
structure Mant (s : ByteArray) (i n : Nat) (dot : Option Nat) : Prop where
  pos : 0 < n
  size : i + n ≤ s.size
  byte : ∀ q, q < n → byt s (i + q) = 46 ∨ (48 ≤ byt s (i + q) ∧ byt s (i + q) ≤ 57)
  point : ∀ q, q < n → (byt s (i + q) = 46 ↔ dot = some q)
  first : byt s i ≠ 46
  zero : byt s i = 48 → 1 < n → byt s (i + 1) = 46
  stop : i + n < s.size → byt s (i + n) = 101 ∨ byt s (i + n) = 69

def fo (dot : Option Nat) (q : Nat) : Bool := match dot with | none => true | some d => decide (q ≤ d)
def dpq (s : ByteArray) (i : Nat) (dot : Option Nat) (q : Nat) : Int := match dot with | none => -1 | some d => if d < q then (cntTo s i d : Int) else -1
/-- the count that scan hands back -/
def fcount (s : ByteArray) (i n : Nat) (dot : Option Nat) : Int := if 0 ≤ dpq s i dot n then dpq s i dot n - cntTo s i n else cntTo s i n

theorem fo_step {dot : Option Nat} {q : Nat} (h : dot ≠ some q) : fo dot (q + 1) = fo dot q := by
  unfold fo
  cases dot with
  | none => rfl
  | some d =>
    have : d ≠ q := fun e => h (by rw [e])
    simp only [decide_eq_decide]; omega
theorem dpq_step {s : ByteArray} {i : Nat} {dot : Option Nat} {q : Nat} (h : dot ≠ some q) : dpq s i dot (q + 1) = dpq s i dot q := by
  unfold dpq
  cases dot with
  | none => rfl
  | some d =>
    have : d ≠ q := fun e => h (by rw [e])
    by_cases h1 : d < q
    · simp only [if_pos h1, if_pos (show d < q + 1 by omega)]
    · simp only [if_neg h1, if_neg (show ¬ d < q + 1 by omega)]
theorem fo_at (q : Nat) : fo (some q) q = true ∧ fo (some q) (q + 1) = false := by simp [fo]
theorem dpq_at (s : ByteArray) (i q : Nat) : dpq s i (some q) (q + 1) = cntTo s i q := by simp [dpq]
theorem cntTo_le (s : ByteArray) (i : Nat) : ∀ n, cntTo s i n ≤ n
  | 0 => Nat.le_refl _
  | n + 1 => by
    have := cntTo_le s i n
    unfold cntTo; split <;> omega

/-- the state in scan's loop -/
structure SI (s : ByteArray) (i q Z k di : Nat) : Prop where
  val : numTo s i q = Z * 10 ^ k + di
  dil : di < 10 ^ k
  kl : k < 19
theorem SI.start (s : ByteArray) (i : Nat) : SI s i 0 0 0 0 := ⟨by simp [numTo], by simp, by omega⟩
theorem SI.point {s : ByteArray} {i q Z k di : Nat} (h : SI s i q Z k di) (hb : byt s (i + q) = 46) : SI s i (q + 1) Z k di :=
  ⟨by rw [numTo, if_pos hb]; exact h.val, h.dil, h.kl⟩
theorem SI.digit {s : ByteArray} {i q Z k di : Nat} (h : SI s i q Z k di) (hb : 48 ≤ byt s (i + q)) (hb2 : byt s (i + q) ≤ 57) (hk : k + 1 ≠ 19) : SI s i (q + 1) Z (k + 1) (di * 10 + (byt s (i + q) - 48)) := by
  refine ⟨?_, ?_, by have := h.kl; omega⟩
  · rw [numTo, if_neg (by omega), h.val, Nat.pow_succ, Nat.add_mul, Nat.mul_assoc]; omega
  · have := h.dil; rw [Nat.pow_succ]; omega
theorem SI.full {s : ByteArray} {i q Z k di : Nat} (h : SI s i q Z k di) (hb : 48 ≤ byt s (i + q)) (hb2 : byt s (i + q) ≤ 57) (hk : k + 1 = 19) :
    SI s i (q + 1) (Z * 10000000000000000000 + (di * 10 + (byt s (i + q) - 48))) 0 0 ∧ di * 10 + (byt s (i + q) - 48) < 10000000000000000000 := by
  obtain rfl : k = 18 := by omega
  have h1 : (10 : Nat) ^ 18 = 1000000000000000000 := by decide
  have h2 := h.dil
  rw [h1] at h2
  refine ⟨⟨?_, by simp, by omega⟩, by omega⟩
  rw [numTo, if_neg (by omega), h.val, h1]; omega
theorem numTo_lt (s : ByteArray) (i : Nat) (n : Nat) (h : ∀ q, q < n → byt s (i + q) ≤ 57) : numTo s i n < 10 ^ n := by
  induction n with
  | zero => simp [numTo]
  | succ n ih =>
    have h1 := ih (fun q hq => h q (by omega))
    have h2 := h n (by omega)
    rw [numTo, Nat.pow_succ]
    split <;> omega
theorem wlen_ten {X n : Nat} (h : X < 10 ^ n) : wlen X ≤ n := by
  refine wlen_le (Nat.lt_of_lt_of_le h (Nat.pow_le_pow_left (by unfold B; omega) n))
end Go.Proofs.YtbnmgopobmiadaaGreatDoor

/- What the text of a decimal is. -/
namespace Go.Proofs.YtbnmgopobmiadaaGreatDoor

theorem byt_extract (s : ByteArray) (a b q : Nat) (h : a + q < b) (hb : b ≤ s.size) : byt (s.extract a b) q = byt s (a + q) := by
  have hs : (s.extract a b).size = b - a := by rw [ByteArray.size_extract, Nat.min_eq_left hb]
  have h1 : q < (s.extract a b).size := by rw [hs]; omega
  rw [byt, dif_pos h1, byt, dif_pos (by omega)]
  congr 1
  exact ByteArray.getElem_extract ..
theorem byt_out {s : ByteArray} {q : Nat} (h : ¬ q < s.size) : byt s q = 0 := by rw [byt, dif_neg h]
theorem byt_lt (s : ByteArray) (q : Nat) : byt s q < 256 := by
  unfold byt
  split
  · exact UInt8.toNat_lt _
  · omega
/-- a byte that is a decimal digit -/
def isd (c : Nat) : Bool := decide (48 ≤ c) && decide (c ≤ 57)
theorem isd_iff {c : Nat} : isd c = true ↔ 48 ≤ c ∧ c ≤ 57 := by simp [isd]
theorem isd_no {c : Nat} : isd c = false ↔ ¬ (48 ≤ c ∧ c ≤ 57) := by simp [isd]

/-- from a to k there are digits, and none at k -/
structure Run (s : ByteArray) (a k : Nat) : Prop where
  lo : a ≤ k
  hi : k ≤ s.size
  dig : ∀ q, a ≤ q → q < k → 48 ≤ byt s q ∧ byt s q ≤ 57
  stop : k < s.size → ¬ (48 ≤ byt s k ∧ byt s k ≤ 57)

theorem mant_whole {s : ByteArray} {a k : Nat} (h : Run s a k) (hp : a < k) (hz : k = a + 1 ∨ byt s a ≠ 48) (he : k < s.size → byt s k = 101 ∨ byt s k = 69) : Mant s a (k - a) none where
  pos := by omega
  size := by have := h.hi; omega
  byte q hq := .inr (h.dig (a + q) (by omega) (by omega))
  point q hq := ⟨fun e => by have := h.dig (a + q) (by omega) (by omega); omega, fun e => by cases e⟩
  first e := by have := h.dig a (Nat.le_refl _) hp; omega
  zero e hn := by omega
  stop hs := by rw [show a + (k - a) = k by omega] at hs ⊢; exact he hs
theorem mant_point {s : ByteArray} {a k p : Nat} (h : Run s a k) (hp : a < k) (hz : k = a + 1 ∨ byt s a ≠ 48) (hb : byt s k = 46) (h2 : Run s (k + 1) p) (he : p < s.size → byt s p = 101 ∨ byt s p = 69) : Mant s a (p - a) (some (k - a)) where
  pos := by have := h2.lo; omega
  size := by have := h2.hi; have := h2.lo; omega
  byte q hq := by
    by_cases h1 : a + q < k
    · exact .inr (h.dig (a + q) (by omega) h1)
    · by_cases h3 : a + q = k
      · rw [h3]; exact .inl hb
      · exact .inr (h2.dig (a + q) (by omega) (by omega))
  point q hq := by
    by_cases h1 : a + q < k
    · have := h.dig (a + q) (by omega) h1
      exact ⟨fun e => by omega, fun e => by have := Option.some.inj e; omega⟩
    · by_cases h3 : a + q = k
      · exact ⟨fun _ => by rw [← h3]; congr 1; omega, fun _ => by rw [h3]; exact hb⟩
      · have := h2.dig (a + q) (by omega) (by omega)
        exact ⟨fun e => by omega, fun e => by have := Option.some.inj e; omega⟩
  first e := by have := h.dig a (Nat.le_refl _) hp; omega
  zero e hn := by
    rcases hz with hz | hz
    · rw [← hz]; exact hb
    · exact absurd e hz
  stop hs := by have := h2.lo; rw [show a + (p - a) = p by omega] at hs ⊢; exact he hs

theorem numTo_zero {s : ByteArray} {i : Nat} : ∀ {n : Nat}, (∀ q, q < n → byt s (i + q) = 46 ∨ (48 ≤ byt s (i + q) ∧ byt s (i + q) ≤ 57)) → (numTo s i n = 0 ↔ ∀ q, q < n → byt s (i + q) = 46 ∨ byt s (i + q) = 48)
  | 0, _ => ⟨fun _ _ h => absurd h (by omega), fun _ => rfl⟩
  | n + 1, h => by
    have ih := numTo_zero (fun q hq => h q (by omega : q < n + 1)) (s := s) (i := i) (n := n)
    have hn := h n (by omega)
    rw [numTo]
    constructor
    · intro e q hq
      by_cases hqn : q = n
      · subst hqn
        by_cases h1 : byt s (i + q) = 46
        · exact .inl h1
        · rw [if_neg h1] at e; omega
      · refine ih.1 ?_ q (by omega)
        split at e <;> omega
    · intro e
      have h0 := ih.2 (fun q hq => e q (by omega))
      have := e n (by omega)
      rw [h0]; split <;> omega

/-- the number that digits write, digit by digit -/
theorem numTo_one (s : ByteArray) (p : Nat) : numTo s p 1 = if byt s p = 46 then 0 else byt s p - 48 := by simp [numTo]

/-- from m on stands an exponent E, or nothing -/
def Expo (s : ByteArray) (m : Nat) (E : Int) : Prop :=
  (m = s.size ∧ E = 0) ∨ ∃ p, m < s.size ∧ (byt s m = 101 ∨ byt s m = 69) ∧ (p = m + 1 ∧ E = numTo s p (s.size - p) ∨ p = m + 2 ∧ (byt s (m + 1) = 43 ∧ E = numTo s p (s.size - p) ∨ byt s (m + 1) = 45 ∧ E = - (numTo s p (s.size - p) : Int))) ∧
    p < s.size ∧ s.size ≤ p + 2 ∧ ∀ q, p ≤ q → q < s.size → 48 ≤ byt s q ∧ byt s q ≤ 57

/-- a text that writes a number -/
structure Dec (s : ByteArray) (i n : Nat) (dot : Option Nat) (E : Int) : Prop where
  size : s.size ≤ 40
  sign : (i = 0 ∧ byt s 0 ≠ 45) ∨ (i = 1 ∧ byt s 0 = 45)
  mant : Mant s i n dot
  expo : Expo s (i + n) E
theorem Expo.stop {s : ByteArray} {m : Nat} {E : Int} (h : Expo s m E) : m < s.size → byt s m = 101 ∨ byt s m = 69 := fun hm => by
  rcases h with ⟨h, _⟩ | ⟨p, _, h, _⟩
  · omega
  · exact h
theorem Expo.bound {s : ByteArray} {m : Nat} {E : Int} (h : Expo s m E) : -99 ≤ E ∧ E ≤ 99 := by
  rcases h with ⟨_, h⟩ | ⟨p, _, _, h, h1, h2, h3⟩
  · omega
  · have hl : numTo s p (s.size - p) < 10 ^ (s.size - p) := numTo_lt s p _ (fun q hq => (h3 (p + q) (by omega) (by omega)).2)
    have h4 : 10 ^ (s.size - p) ≤ 10 ^ 2 := Nat.pow_le_pow_right (by omega) (by omega)
    have h5 : (10 : Nat) ^ 2 = 100 := rfl
    rcases h with ⟨_, h⟩ | ⟨_, ⟨_, h⟩ | ⟨_, h⟩⟩ <;> omega
end Go.Proofs.YtbnmgopobmiadaaGreatDoor

/- zzIndex: no slash is found. -/
namespace Go.Proofs.YtbnmgopobmiadaaGreatDoor
open Go.RowKit

theorem slash_ne (s : ByteArray) (k : Nat) (hk : k < s.size) (h : byt s k ≠ 47) : ((s.extract k (k + 1)).toList == [47]) = false := by
  rw [beq_eq_false_iff_ne]
  intro e
  rw [ByteArray.toList_eq] at e
  have h0 : (s.extract k (k + 1)).data.toList[0]? = some 47 := by rw [e]; rfl
  rw [ByteArray.data_extract, Array.getElem?_toList, Array.getElem?_extract] at h0
  have hk' : k < s.data.size := hk
  have h1 : s.data[k]'hk' = 47 := by
    rw [if_pos (by omega), Nat.add_zero, Array.getElem?_eq_getElem hk'] at h0
    exact Option.some.inj h0
  refine h ?_
  rw [byt, dif_pos hk]
  have h2 : s[k]'hk = s.data[k]'hk' := rfl
  rw [h2, h1]; rfl
set_option maxRecDepth 100000 in
theorem zzIndex_none (s : ByteArray) (w : World) (hs : s.size ≤ 1000) (h : ∀ q, q < s.size → byt s q ≠ 47) :
    Calls Tryz.prog 34 #[.string s, .string ⟨#[47]⟩] w fun e w' => e = .returned (.int .i64 (-1)) ∧ w = w' := by
  go_enter Tryz.func34, Tryz.ntmps34
  go_wp2
  go_loop [5] (fun iv => ∃ k : Nat, k ≤ s.size ∧ iv = .int .i64 k) (fun iv => (1001 - intOf iv).toNat)
  case atStart => exact ⟨0, Nat.zero_le _, rfl⟩
  case round =>
    obtain ⟨k, hk, rfl⟩ := hrel
    by_cases hlt : k < s.size
    · have l1 : (k : Int) + 1 ≤ s.size := by omega
      have e1 := slash_ne s k hlt (h k hlt)
      have w1 : IntKind.i64.wrap ((k : Int) + 1) = (k : Int) + 1 := by rw [IntKind.wrap_i64]; omega
      go_wp2
      exact ⟨⟨k + 1, by omega, rfl⟩, by simp [intOf]; omega⟩
    · have l1 : ¬ (k : Int) + 1 ≤ s.size := by omega
      go_wp2
      go_ret
      exact ⟨rfl, rfl⟩
end Go.Proofs.YtbnmgopobmiadaaGreatDoor
