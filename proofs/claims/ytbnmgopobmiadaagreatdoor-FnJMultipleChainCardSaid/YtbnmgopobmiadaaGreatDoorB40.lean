/- scanExponent at the exponent of a decimal. -/
import Derived.Test.YtbnmgopobmiadaaGreatDoorB26
import Derived.Test.YtbnmgopobmiadaaGreatDoorB37
import Derived.Laws.AppendOwn
import Derived.Laws.IdiomStrings
import Derived.Test.YtbnmgopobmiadaaGreatDoorSh
import Derived.Deep.CutRange

set_option linter.unusedSimpArgs false
set_option linter.unusedVariables false

namespace Go.Proofs.YtbnmgopobmiadaaGreatDoor
open Go.RowKit

theorem info5 : (Tryz.prog.info? 5).map (fun i => (i.zero, i.size, i.bytes)) = some (some (.int .u8 0), 1, 1) := by kernel_rfl

/-- n bytes from p on -/
def bts (s : ByteArray) (p : Nat) : Nat → List UInt8
  | 0 => []
  | n + 1 => bts s p n ++ [UInt8.ofNat (byt s (p + n))]
def u8v (l : List UInt8) : List Value := l.map fun c => .int .u8 (c.toNat : Int)
theorem ofNat_byt (s : ByteArray) (q : Nat) : (UInt8.ofNat (byt s q)).toNat = byt s q := by
  rw [UInt8.toNat_ofNat']; exact Nat.mod_eq_of_lt (byt_lt s q)
/-- a slice holds bytes -/
def Bs (base : Nat) (w : World) (v : Value) (l : List UInt8) : Prop := w.ownsRow base 5 1 v l.length (u8v l)
theorem Bs.nil (base : Nat) (w : World) : Bs base w (.slice none 0 0) [] := ⟨rfl, .inl ⟨rfl, rfl⟩⟩
theorem Bs.keep {base : Nat} {S : Nat → Prop} {w w' : World} {v : Value} {l : List UInt8} (h : Bs base w v l) (hc : Chg S w w') (hs : ∀ k, base ≤ k → ¬ S k) : Bs base w' v l := by
  obtain ⟨h1, h2 | ⟨g, cap, cur, h2, h3, h4, h5⟩⟩ := h
  · exact ⟨h1, .inl h2⟩
  · exact ⟨h1, .inr ⟨g, cap, cur, h2, h3, (hc.keep g (Array.getElem?_eq_some_iff.1 h4).1 (hs g h3)).trans h4, h5⟩⟩
theorem Bs.cells {base : Nat} {w : World} {v : Value} {l : List UInt8} (h : Bs base w v l) (h0 : l ≠ []) : ∃ a cap, v = .slice (some a) l.length cap ∧ ∀ j (hj : j < l.length), w.cell? (a.add j) = some (.int .u8 (l[j].toNat : Int)) := by
  obtain ⟨h1, ⟨_, h2⟩ | ⟨g, cap, cur, rfl, h3, h4, h5, h6, h7, h8⟩⟩ := h
  · exact absurd (List.length_eq_zero_iff.1 h2) h0
  · refine ⟨_, _, rfl, fun j hj => ?_⟩
    have e : cur.toList[j]? = some (.int .u8 (l[j].toNat : Int)) := by
      have e2 : (cur.toList.take (l.length * 1))[j]? = (u8v l)[j]? := by rw [h8]
      rw [List.getElem?_take_of_lt (by omega)] at e2
      rw [e2, u8v, List.getElem?_map, List.getElem?_eq_getElem hj]; rfl
    have e3 : (Addr.add ⟨g, 0, none⟩ j) = ⟨g, 0 + j, none⟩ := by simp [Addr.add]; exact fun h => h.symm
    rw [e3, Nat.zero_add]
    simp only [World.cell?, h4]
    rw [← Array.getElem?_toList]; exact e
theorem chg_of_grown {w w' : World} {row : Option Nat} {base : Nat} (h : w.grownBy w' row) (hr : ∀ k, row = some k → base ≤ k) : Chg (fun k => base ≤ k) w w' :=
  ⟨h.os, h.tape, h.output, h.size, fun k hk hn => h.block k hk (fun e => hn (hr k e.symm))⟩
theorem Bs.own {base : Nat} {w : World} {v : Value} {l : List UInt8} (h : Bs base w v l) : ∀ k, v.ownBlock = some k → base ≤ k := by
  obtain ⟨h1, ⟨rfl, h2⟩ | ⟨g, cap, cur, rfl, h3, _⟩⟩ := h
  · intro k hk; simp [Value.ownBlock] at hk
  · intro k hk; simp [Value.ownBlock] at hk; omega

theorem parse_one {c : UInt8} (h1 : 48 ≤ c.toNat) (h2 : c.toNat ≤ 57) : Lib.parseUintB 64 [c] = .ok (c.toNat - 48) := by
  simp [Lib.parseUintB, Lib.parseUintM, h1, h2]; omega
theorem parse_two {c d : UInt8} (h1 : 48 ≤ c.toNat) (h2 : c.toNat ≤ 57) (h3 : 48 ≤ d.toNat) (h4 : d.toNat ≤ 57) : Lib.parseUintB 64 [c, d] = .ok ((c.toNat - 48) * 10 + (d.toNat - 48)) := by
  have a1 : ¬ 1844674407370955162 ≤ c.toNat - 48 := by omega
  have a2 : ¬ 18446744073709551615 < c.toNat - 48 := by omega
  have a3 : ¬ 18446744073709551615 < (c.toNat - 48) * 10 + (d.toNat - 48) := by omega
  simp [Lib.parseUintB, Lib.parseUintM, h1, h2, h3, h4, a1, a2, a3]
theorem parse_digits {s : ByteArray} {p n : Nat} (hn : n = 1 ∨ n = 2) (hd : ∀ q, q < n → 48 ≤ byt s (p + q) ∧ byt s (p + q) ≤ 57) : Lib.parseUintB 64 (bts s p n) = .ok (numTo s p n) := by
  rcases hn with rfl | rfl
  · have h0 := hd 0 (by omega)
    have e := ofNat_byt s (p + 0)
    have h1 := parse_one (c := UInt8.ofNat (byt s (p + 0))) (by rw [e]; exact h0.1) (by rw [e]; exact h0.2)
    rw [e] at h1
    have h2 : numTo s p 1 = byt s (p + 0) - 48 := by
      rw [numTo, if_neg (by omega)]; simp [numTo]
    rw [h2, ← h1]; rfl
  · have h0 := hd 0 (by omega)
    have h0' := hd 1 (by omega)
    have e := ofNat_byt s (p + 0)
    have e' := ofNat_byt s (p + 1)
    have h1 := parse_two (c := UInt8.ofNat (byt s (p + 0))) (d := UInt8.ofNat (byt s (p + 1))) (by rw [e]; exact h0.1) (by rw [e]; exact h0.2) (by rw [e']; exact h0'.1) (by rw [e']; exact h0'.2)
    rw [e, e'] at h1
    have h2 : numTo s p 2 = (byt s (p + 0) - 48) * 10 + (byt s (p + 1) - 48) := by
      rw [numTo, if_neg (by omega), numTo, if_neg (by omega)]; simp [numTo]
    rw [h2, ← h1]; rfl
theorem bts_cons {s : ByteArray} {p n : Nat} (hn : n = 1 ∨ n = 2) : ∃ r, bts s p n = UInt8.ofNat (byt s p) :: r := by
  rcases hn with rfl | rfl <;> exact ⟨_, rfl⟩
theorem bts_length (s : ByteArray) (p : Nat) : ∀ n, (bts s p n).length = n
  | 0 => rfl
  | n + 1 => by rw [bts, List.length_append, bts_length s p n]; rfl
/-- what the digits of an exponent write -/
theorem parse_plain {s : ByteArray} {p n : Nat} (hn : n = 1 ∨ n = 2) (hd : ∀ q, q < n → 48 ≤ byt s (p + q) ∧ byt s (p + q) ≤ 57) (hlt : numTo s p n < 100) : Lib.parseIntB 64 (bts s p n) = .ok (numTo s p n) := by
  obtain ⟨r, hr⟩ := bts_cons (s := s) (p := p) hn
  have h0 := hd 0 (by rcases hn with rfl | rfl <;> omega)
  rw [Nat.add_zero] at h0
  have e := ofNat_byt s p
  have h1 := parse_digits hn hd
  rw [hr] at h1 ⊢
  have a1 : ¬ ((UInt8.ofNat (byt s p)).toNat = 43 ∨ (UInt8.ofNat (byt s p)).toNat = 45) := by rw [e]; omega
  have a2 : ¬ (UInt8.ofNat (byt s p)).toNat = 45 := by rw [e]; omega
  have a3 : ¬ 2 ^ (64 - 1) ≤ numTo s p n := by
    have : (100 : Nat) < 2 ^ (64 - 1) := by decide
    omega
  simp only [Lib.parseIntB, if_neg a1, h1, if_neg a2]
  simp only [a2, not_false_eq_true, true_and, false_and, if_false, if_neg a3]
theorem parse_minus {s : ByteArray} {p n : Nat} (hn : n = 1 ∨ n = 2) (hd : ∀ q, q < n → 48 ≤ byt s (p + q) ∧ byt s (p + q) ≤ 57) (hlt : numTo s p n < 100) : Lib.parseIntB 64 (45 :: bts s p n) = .ok (- (numTo s p n : Int)) := by
  have h1 := parse_digits hn hd
  have a1 : (UInt8.toNat 45 = 43 ∨ UInt8.toNat 45 = 45) := .inr rfl
  have a2 : UInt8.toNat 45 = 45 := rfl
  have a3 : ¬ 2 ^ (64 - 1) < numTo s p n := by
    have : (100 : Nat) < 2 ^ (64 - 1) := by decide
    omega
  simp only [Lib.parseIntB, if_pos a1, h1]
  simp only [a2, not_true_eq_false, true_and, false_and, if_false, if_true, if_neg a3]
end Go.Proofs.YtbnmgopobmiadaaGreatDoor

/- scanExponent at the exponent of a decimal: the walk. -/
namespace Go.Proofs.YtbnmgopobmiadaaGreatDoor
open Go.RowKit

theorem chg_below {w w' : World} (h : Below w.heap.size w w') : Chg (fun _ => False) w w' := ⟨h.os, h.tape, h.output, h.size, fun k hk _ => h.block k hk⟩

theorem chg_bytes (w : World) (e : TypeId) (t : ByteArray) : Chg (fun _ => False) w (Lib.bytesWorld w e t) := by
  refine ⟨rfl, rfl, rfl, ?_, fun k hk _ => Lib.bytesWorld_at_old w e t k hk⟩
  rw [Lib.bytesWorld_size]; omega

/-- what scanExponent hands back -/
def ScanE (s : ByteArray) (rb : Nat) (E : Int) (w : World) (e : Ending) (w' : World) : Prop :=
  e = .returned (.tuple #[.int .i64 E, .int .i64 10, .nilIface]) ∧ Rdr w' rb s s.size (-1) ∧ Chg (fun k => k = rb) w w'

/-- behind the sign -/
def SG (s : ByteArray) (rb p : Nat) (w : World) (pre : List UInt8) (s8 s9 s10 : Value) (wr : World) : Prop :=
  Bs w.heap.size wr s10 pre ∧ s8 = .nilIface ∧ s9 = .int .u8 (byt s p) ∧ Rdr wr rb s (p + 1) (-1) ∧ Chg (fun k => k = rb) w wr

/-- the loop over the digits -/
def EL (s : ByteArray) (p rb : Nat) (eof : Value) (w : World) (pre : List UInt8) (k : Nat) (s8 s9 s10 s11 s12 s13 : Value) (wr : World) : Prop :=
  ∃ (q : Nat) (dv : Value), dv = s10 ∧ p ≤ q ∧ q ≤ s.size ∧ s.size - q ≤ k ∧ Bs w.heap.size wr dv (pre ++ bts s p (q - p)) ∧ s12 = .bool false ∧
    ((q = p ∧ s11 = .int .i32 46 ∧ s13 = .bool false) ∨ (p < q ∧ s11 = .int .i32 48 ∧ s13 = .bool true)) ∧ Chg (fun k => k = rb) w wr ∧
    ((q < s.size ∧ s8 = .nilIface ∧ s9 = .int .u8 (byt s q) ∧ Rdr wr rb s (q + 1) (-1)) ∨ (q = s.size ∧ s8 = eof ∧ s9 = .int .u8 0 ∧ Rdr wr rb s q (-1)))

theorem Bs.snoc {base : Nat} {w : World} {v : Value} {l : List UInt8} {c : Nat} (hc : c < 256) (h : w.ownsRow base 5 1 v (l.length + 1) (u8v l ++ [.int .u8 c])) : Bs base w v (l ++ [UInt8.ofNat c]) := by
  have e : u8v (l ++ [UInt8.ofNat c]) = u8v l ++ [.int .u8 c] := by
    simp only [u8v, List.map_append, List.map_cons, List.map_nil]
    rw [UInt8.toNat_ofNat', Nat.mod_eq_of_lt hc]
  unfold Bs
  rw [e, List.length_append, List.length_singleton]
  exact h

theorem wpList_app8 {ops : Array Oper} {rest : List Oper} {o : Oper} {a : Act} {w : World} {Q : Exit → Act → World → Prop} (hgd : o.guard = none) (s x : Operand)
    (ho : o.op = .call { callee := .builtin .append, args := #[s, x], argTypes := #[202, 202] }) (base : Nat) (v : Value) (l : List UInt8) (hs : a.eval s = v) (hown : Bs base w v l) (c : Nat) (hc : c < 256) (cv : Int) (hcv : cv = (c : Int))
    (hx : a.eval x = .slice (some ⟨w.heap.size, 0, none⟩) 1 1) (hl : l.length ≤ 1000) (hb : base ≤ w.heap.size)
    (h : ∀ v' w', Bs base w' v' (l ++ [UInt8.ofNat c]) → Chg (fun k => base ≤ k) w w' → wpList Tryz.prog ops Q rest (a.put o.dst v') w') : wpList Tryz.prog ops Q (o :: rest) a (w.alloc (.cells #[.int .u8 cv] 5)) := by
  subst hcv
  obtain ⟨i0, hi, hz0, hz1, hz2⟩ := info_parts info5
  refine wpList_append_own _ hgd s x 202 ho base 5 i0 (.int .u8 0) 1 1 Tryz.underlying202 hi hz0 hz1 hz2 rfl (by decide) v l.length (u8v l) hs (hown.alloc _) ⟨w.heap.size, 0, none⟩ 1 1 [.int .u8 c] hx rfl (cell_one_new _ _ _) (fun u hu => ?_) (by unfold maxLen; omega) (by omega) (by simp; omega) ?_
  · rw [List.mem_singleton] at hu; subst hu; rfl
  · intro v' w' h1 h2 _
    refine h v' w' (Bs.snoc hc h1) ?_
    exact ((Chg.refl (fun k => base ≤ k) w).alloc _).trans (chg_of_grown h2 hown.own) (fun _ h => h) (fun _ _ h => h)

set_option maxRecDepth 100000 in
theorem scanExp_end (rb : Nat) (s : ByteArray) (p : Int) (te : TypeId) (ve : Value) (w : World) (h : Rdr w rb s s.size p) (hs : s.size ≤ 1000) (hE : w.cell? ⟨0, 0, none⟩ = some (.iface te ve))
    (heq : ∀ w, (binOp .eql 62 (.iface te ve) (.iface te ve)).run Tryz.prog w = .ok (.bool true) w) (hrb : rb ≠ 0) :
    Calls Tryz.prog 41 #[rdv rb, .bool true, .bool true] w (ScanE s rb 0 w) := by
  have hm := meth_read rb
  have hrd := readByte rb s s.size p (.iface te ve) w h (Nat.le_refl _) (by omega) hE hrb
  unfold rdv
  have HM := Lib.hid (And.intro hE hs)
  clear h hE hs
  go_enter Tryz.func41, Tryz.ntmps41
  go_wp2_with fail
  refine hrd.mono ?_
  rintro e w1 ⟨hch, ⟨hi', rfl, hr⟩ | ⟨h0, rfl, hr⟩⟩
  · omega
  have hE1 := hch.cell (a := ⟨0, 0, none⟩) HM.out.1 (fun h => hrb h.symm)
  have HR := Lib.hid (And.intro hr hch)
  clear hr hch hrd
  go_wp2
  go_ret3
  exact ⟨rfl, HR.out.1, HR.out.2⟩

set_option maxHeartbeats 8000000 in
set_option maxRecDepth 100000 in
theorem scanExp_some (rb : Nat) (s : ByteArray) (m p : Nat) (neg : Bool) (E : Int) (pr : Int) (te : TypeId) (ve : Value) (w : World) (h : Rdr w rb s m pr) (hs : s.size ≤ 1000) (hm : m < s.size) (hc : byt s m = 101 ∨ byt s m = 69)
    (hp : (p = m + 1 ∧ neg = false) ∨ (p = m + 2 ∧ ((byt s (m + 1) = 43 ∧ neg = false) ∨ (byt s (m + 1) = 45 ∧ neg = true)))) (hps : p < s.size) (hd : ∀ q, p ≤ q → q < s.size → 48 ≤ byt s q ∧ byt s q ≤ 57)
    (hE : w.cell? ⟨0, 0, none⟩ = some (.iface te ve)) (hparse : Lib.parseIntB 64 ((if neg = true then [45] else []) ++ bts s p (s.size - p)) = .ok E)
    (heq : ∀ w, (binOp .eql 62 (.iface te ve) (.iface te ve)).run Tryz.prog w = .ok (.bool true) w) (hrb : rb ≠ 0) :
    Calls Tryz.prog 41 #[rdv rb, .bool true, .bool true] w (ScanE s rb E w) := by
  have hmr := meth_read rb
  have hmu := meth_unread rb
  have hrd := readByte rb s m pr (.iface te ve) w h (by omega) (by omega) hE hrb
  unfold rdv
  have hrl : rb < w.heap.size := by
    obtain ⟨e, h1⟩ := h
    exact (Array.getElem?_eq_some_iff.1 h1).1
  obtain ⟨pre, hpre⟩ : ∃ pre, pre = (if neg = true then [45] else [] : List UInt8) := ⟨_, rfl⟩
  rw [← hpre] at hparse
  obtain ⟨i0, hi, hz0, hz1, hz2⟩ := info_parts info5
  have HM := Lib.hid (And.intro hE (And.intro hs (And.intro hrl (And.intro hm (And.intro hp (And.intro hps (And.intro hd (And.intro hparse hpre))))))))
  have HI := Lib.hid (And.intro hi (And.intro hz0 (And.intro hz1 hz2)))
  clear h hE hs hrl hm hp hps hd hparse hpre hi hz0 hz1 hz2
  go_enter Tryz.func41, Tryz.ntmps41
  go_wp2_with fail
  refine hrd.mono ?_
  rintro e w1 ⟨hch, ⟨hi', rfl, hr⟩ | ⟨h0, _⟩⟩
  case inr => have := HM.out.2.2.2.1; omega
  case inl =>
    rw [byt_in hi']
    clear hrd
    have HR := Lib.hid (And.intro hr hch)
    clear hr hch
    obtain ⟨c, hcc⟩ : ∃ c, c = byt s m := ⟨_, rfl⟩
    rw [← hcc] at hc ⊢
    clear hcc
    rcases hc with rfl | rfl
    all_goals
      have hrd2 := readByte rb s (m + 1) (-1) (.iface te ve) w1 HR.out.1 (by omega) (by have := HM.out.2.1; omega) (HR.out.2.cell HM.out.1 (fun h => hrb h.symm)) hrb
      obtain ⟨c2, hc2⟩ : ∃ c, c = byt s (m + 1) := ⟨_, rfl⟩
      have hin : m + 1 < s.size := by
        have hps := HM.out.2.2.2.2.2.1
        rcases HM.out.2.2.2.2.1 with ⟨h, _⟩ | ⟨h, _⟩ <;> omega
      go_wp2_with fail
      refine hrd2.mono ?_
      rintro e w2 ⟨hch2, ⟨hi2, rfl, hr2⟩ | ⟨h0, _⟩⟩
      case' inr => omega
      rw [byt_in hi2, ← hc2]
      have HR2 := Lib.hid (And.intro hr2 (And.intro hch2 hc2))
      clear hrd2 hr2 hch2 hc2
      have hpc : (p = m + 1 ∧ 48 ≤ c2 ∧ c2 ≤ 57) ∨ c2 = 43 ∨ c2 = 45 := by
        obtain ⟨_, _, hcc⟩ := HR2.out
        obtain ⟨_, _, _, _, hp, hps, hd, _⟩ := HM.out
        rcases hp with ⟨h, _⟩ | ⟨_, ⟨h, _⟩ | ⟨h, _⟩⟩
        · have := hd (m + 1) (by omega) hin; omega
        · omega
        · omega
      rcases hpc with ⟨hp1, d1, d2⟩ | rfl | rfl
      case' inl =>
        have e43 : ((c2 : Int) == 43) = false := beq_eq_false_iff_ne.2 (by omega)
        have e45 : ((c2 : Int) == 45) = false := beq_eq_false_iff_ne.2 (by omega)
        have HST : Hid (SG s rb p w pre .nilIface (.int .u8 c2) (.slice none 0 0) w2) := by
          obtain ⟨h1, h2, h3⟩ := HR2.out
          obtain ⟨_, _, _, _, hp, _, _, _, hpre⟩ := HM.out
          have hn : neg = false := by
            rcases hp with ⟨_, h⟩ | ⟨h, _⟩
            · exact h
            · omega
          rw [hn] at hpre
          subst hp1
          refine Lib.hid ⟨?_, rfl, by rw [h3], h1, HR.out.2.trans h2 (fun _ h => h) (fun _ _ h => h)⟩
          rw [hpre]; exact Bs.nil _ _
        clear HR2
        go_wp2
      case' inr.inl =>
        have hrd3 := readByte rb s (m + 1 + 1) (-1) (.iface te ve) w2 HR2.out.1 (by omega) (by have := HM.out.2.1; omega) (HR2.out.2.1.cell (HR.out.2.cell HM.out.1 (fun h => hrb h.symm)) (fun h => hrb h.symm)) hrb
        have hp2 : p = m + 1 + 1 ∧ neg = false := by
          obtain ⟨_, _, hcc⟩ := HR2.out
          obtain ⟨_, _, _, _, hp, hps, hd, _⟩ := HM.out
          rcases hp with ⟨h, _⟩ | ⟨h1, ⟨h, h2⟩ | ⟨h, _⟩⟩
          · have := hd (m + 1) (by omega) hin; omega
          · exact ⟨by omega, h2⟩
          · omega
        have hps' : m + 1 + 1 < s.size := by have := HM.out.2.2.2.2.2.1; omega
        have HP2 := Lib.hid hp2
        clear hp2
        go_wp2_with fail
        refine hrd3.mono ?_
        rintro e w3 ⟨hch3, ⟨hi3, rfl, hr3⟩ | ⟨h0, _⟩⟩
        case inr => omega
        rw [byt_in hi3]
        have HST : Hid (SG s rb p w pre .nilIface (.int .u8 (byt s (m + 1 + 1))) (.slice none 0 0) w3) := by
          obtain ⟨h1, h2, h3⟩ := HR2.out
          obtain ⟨_, _, _, _, hp, _, _, _, hpre⟩ := HM.out
          obtain ⟨rfl, hn⟩ := HP2.out
          rw [hn] at hpre
          refine Lib.hid ⟨?_, rfl, rfl, hr3, (HR.out.2.trans h2 (fun _ h => h) (fun _ _ h => h)).trans hch3 (fun _ h => h) (fun _ _ h => h)⟩
          rw [hpre]; exact Bs.nil _ _
        clear HR2 hrd3 hr3 hch3
        generalize byt s (m + 1 + 1) = c3 at HST ⊢
        go_wp2
      case' inr.inr =>
        have hown : Bs w.heap.size w2 (.slice none 0 0) [] := Bs.nil _ _
        have hp2 : p = m + 1 + 1 ∧ neg = true := by
          obtain ⟨_, _, hcc⟩ := HR2.out
          obtain ⟨_, _, _, _, hp, hps, hd, _⟩ := HM.out
          rcases hp with ⟨h, _⟩ | ⟨h1, ⟨h, h2⟩ | ⟨h, h2⟩⟩
          · have := hd (m + 1) (by omega) hin; omega
          · omega
          · exact ⟨by omega, h2⟩
        have hps' : m + 1 + 1 < s.size := by have := HM.out.2.2.2.2.2.1; omega
        have HP2 := Lib.hid hp2
        have hsz : w.heap.size ≤ w2.heap.size := Nat.le_trans HR.out.2.size HR2.out.2.1.size
        clear hp2
        go_wp2_with (at_builtin; refine wpList_app8 rfl (.tmp 52) (.tmp 53) rfl w.heap.size _ [] rfl hown 45 ?c2 45 rfl rfl ?c3 hsz ?_)
        case c2 => decide
        case c3 => simp
        intro v3 w3 hbs hch3
        have hrw : Rdr w3 rb s (m + 1 + 1) (-1) := HR2.out.1.keep hch3 (fun h => by have := HM.out.2.2.1; omega)
        have hE3 : w3.cell? ⟨0, 0, none⟩ = some (.iface te ve) := by
          have h0 := World.block_lt_of_cell? w _ HM.out.1
          exact (HR2.out.2.1.cell (HR.out.2.cell HM.out.1 (fun h => hrb h.symm)) (fun h => hrb h.symm)).symm ▸ hch3.cell (HR2.out.2.1.cell (HR.out.2.cell HM.out.1 (fun h => hrb h.symm)) (fun h => hrb h.symm)) (fun h => by have h1 : w.heap.size ≤ 0 := h; have h2 : 0 < w.heap.size := h0; omega)
        have hrd3 := readByte rb s (m + 1 + 1) (-1) (.iface te ve) w3 hrw (by omega) (by have := HM.out.2.1; omega) hE3 hrb
        have HN := Lib.hid (And.intro hbs hch3)
        clear hrw hE3 hown hbs hch3
        go_wp2_with fail
        refine hrd3.mono ?_
        rintro e w4 ⟨hch4, ⟨hi3, rfl, hr3⟩ | ⟨h0, _⟩⟩
        case inr => omega
        rw [byt_in hi3]
        have HST : Hid (SG s rb p w pre .nilIface (.int .u8 (byt s (m + 1 + 1))) v3 w4) := by
          obtain ⟨h1, h2, h3⟩ := HR2.out
          obtain ⟨_, _, hrl, _, hp, _, _, _, hpre⟩ := HM.out
          obtain ⟨rfl, hn⟩ := HP2.out
          obtain ⟨hbs, hch3⟩ := HN.out
          rw [hn] at hpre
          have k3 : Chg (fun k => k = rb) w w3 := (HR.out.2.trans h2 (fun _ h => h) (fun _ _ h => h)).trans hch3 (fun _ h => h) (fun k hk h => by omega)
          refine Lib.hid ⟨?_, rfl, rfl, hr3, k3.trans hch4 (fun _ h => h) (fun _ _ h => h)⟩
          rw [hpre]; exact hbs.keep hch4 (fun k h1 h2 => by omega)
        clear HR2 hrd3 hr3 hch4 HN hsz
        generalize byt s (m + 1 + 1) = c3 at HST ⊢
        go_wp2
      all_goals
        go_loopg [8, 9, 10, 11, 12, 13] (s.size) (fun k s8 s9 s10 s11 s12 s13 wr => EL s p rb (.iface te ve) w pre k s8 s9 s10 s11 s12 s13 wr)
        case atStart =>
          obtain ⟨h1, h2, h3, h4, h5⟩ := HST.out
          have hps := HM.out.2.2.2.2.2.1
          refine ⟨p, _, rfl, Nat.le_refl _, by omega, by omega, ?_, rfl, .inl ⟨rfl, rfl, rfl⟩, h5, .inl ⟨hps, h2, h3, h4⟩⟩
          rw [Nat.sub_self, bts, List.append_nil]; exact h1
        case round =>
          obtain ⟨q, dv, rfl, hpq, hqs, hk, hbs, rfl, hd, hch, hend⟩ := hrel
          have hrl := HM.out.2.2.1
          have hs1000 := HM.out.2.1
          have hsz := hch.size
          rcases hend with ⟨hin, rfl, rfl, hr⟩ | ⟨hin, rfl, rfl, hr⟩
          · have hdg := HM.out.2.2.2.2.2.2.1 q hpq hin
            have hpl : (pre ++ bts s p (q - p)).length ≤ 1000 := by
              rw [List.length_append, bts_length]
              have hpre := HM.out.2.2.2.2.2.2.2.2
              have : pre.length ≤ 1 := by rw [hpre]; split <;> simp
              omega
            have hprs : pre ++ bts s p (q - p) ++ [UInt8.ofNat (byt s q)] = pre ++ bts s p (q + 1 - p) := by
              rw [show q + 1 - p = q - p + 1 by omega, bts, show p + (q - p) = q by omega, List.append_assoc]
            have hc256 := byt_lt s q
            obtain ⟨c, hc⟩ : ∃ c, c = byt s q := ⟨_, rfl⟩
            rw [← hc] at hdg hprs hc256 ⊢
            obtain ⟨d1, d2⟩ := hdg
            have HB := Lib.hid (And.intro hprs (And.intro hr (And.intro hch hc)))
            obtain ⟨l, hl⟩ : ∃ l, l = pre ++ bts s p (q - p) := ⟨_, rfl⟩
            rw [← hl] at hbs hpl
            have HL := Lib.hid hl
            clear hprs hr hch hc hl hd
            go_wp2_with (at_builtin; refine wpList_app8 rfl (.tmp 68) (.tmp 70) rfl w.heap.size _ l rfl hbs c hc256 c rfl rfl hpl hsz ?_)
            intro v3 w3 hbs3 hch3
            have hrw : Rdr w3 rb s (q + 1) (-1) := HB.out.2.1.keep hch3 (fun h => by omega)
            have hE3 : w3.cell? ⟨0, 0, none⟩ = some (.iface te ve) := by
              have h0 := World.block_lt_of_cell? w _ HM.out.1
              refine hch3.cell (HB.out.2.2.1.cell HM.out.1 (fun h => hrb h.symm)) (fun h => ?_)
              have h1 : w.heap.size ≤ 0 := h
              have h2 : 0 < w.heap.size := h0
              omega
            have hrd4 := readByte rb s (q + 1) (-1) (.iface te ve) w3 hrw (by omega) (by omega) hE3 hrb
            have k3 : Chg (fun k => k = rb) w w3 := HB.out.2.2.1.trans hch3 (fun _ h => h) (fun k hk h => by omega)
            have HN := Lib.hid (And.intro hbs3 k3)
            clear hrw hE3 hbs hbs3 hch3 k3 hsz
            go_wp2_with fail
            refine hrd4.mono ?_
            rintro e w5 ⟨hch5, ⟨hi5, rfl, hr5⟩ | ⟨h0, rfl, hr5⟩⟩
            case' inl => rw [byt_in hi5]
            all_goals
              have HN5 := Lib.hid (And.intro hch5 hr5)
              clear hch5 hr5
              try (obtain ⟨cn, hcn⟩ : ∃ x, x = byt s (q + 1) := ⟨_, rfl⟩; rw [← hcn]; have HCN := Lib.hid hcn; clear hcn)
              go_wp2
              go_roundg (s.size - (q + 1))
              case measure => omega
              case rel =>
                obtain ⟨hch5, hr5⟩ := HN5.out
                obtain ⟨hbs3, k3⟩ := HN.out
                refine ⟨q + 1, _, rfl, by omega, hin, by omega, ?_, rfl, .inr ⟨by omega, rfl, rfl⟩, k3.trans hch5 (fun _ h => h) (fun _ _ h => h), ?_⟩
                · rw [← HB.out.1, ← HL.out]; exact hbs3.keep hch5 (fun k h1 h2 => by have h3 : k = rb := h2; omega)
                · first
                    | exact .inl ⟨hi5, rfl, by rw [HCN.out], hr5⟩
                    | exact .inr ⟨h0, rfl, rfl, hr5⟩
          · have hps := HM.out.2.2.2.2.2.1
            subst hin
            rcases hd with ⟨h1, _⟩ | ⟨hpq', rfl, rfl⟩
            case inl => omega
            case inr =>
              obtain ⟨l, hl⟩ : ∃ l, l = pre ++ bts s p (s.size - p) := ⟨_, rfl⟩
              rw [← hl] at hbs
              have hl0 : l ≠ [] := by
                intro h
                have h2 : l.length = 0 := by rw [h]; rfl
                rw [hl, List.length_append, bts_length] at h2
                omega
              obtain ⟨a, cap, rfl, hcs⟩ := hbs.cells hl0
              have hcv := run_convert_bytes_back (P := Tryz.prog) wr 202 9 5 a cap l Tryz.underlying202 Tryz.underlying5 Tryz.underlying9 hcs
              have hEr := hch.cell (a := ⟨0, 0, none⟩) HM.out.1 (fun h => hrb h.symm)
              have hlen : l.length ≤ 1001 := by
                rw [hl, List.length_append, bts_length]
                have hpre := HM.out.2.2.2.2.2.2.2.2
                have : pre.length ≤ 1 := by rw [hpre]; split <;> simp
                omega
              have hpi := Tryz.strconv_ParseInt_10_at64_ok ⟨l.toArray⟩ (by simp [ByteArray.size]; omega) E (by rw [hl]; exact HM.out.2.2.2.2.2.2.2.1) wr
              have HF := Lib.hid (And.intro hr hch)
              clear hbs hl hl0 hcs hlen hch hr hk
              go_wp2_with fail
              refine hpi.mono ?_
              rintro e w7 ⟨rfl, hw7⟩
              have c7 : Chg (fun _ => False) wr w7 := by
                rcases hw7 with rfl | ⟨t, rfl⟩
                · exact Chg.refl _ _
                · exact chg_bytes _ _ _
              have HG : Hid (Rdr w7 rb s s.size (-1) ∧ Chg (fun k => k = rb) w w7) := Lib.hid ⟨HF.out.1.keep c7 (fun h => h), HF.out.2.trans c7 (fun _ h => h) (fun _ _ h => h.elim)⟩
              clear hw7 hpi hcv hEr c7 HF
              go_wp2
              go_ret3
              exact ⟨rfl, HG.out.1, HG.out.2⟩

theorem scanExp (rb : Nat) (s : ByteArray) (m : Nat) (E : Int) (pr : Int) (te : TypeId) (ve : Value) (w : World) (h : Rdr w rb s m pr) (hs : s.size ≤ 1000) (hx : Expo s m E) (hE : w.cell? ⟨0, 0, none⟩ = some (.iface te ve))
    (heq : ∀ w, (binOp .eql 62 (.iface te ve) (.iface te ve)).run Tryz.prog w = .ok (.bool true) w) (hrb : rb ≠ 0) :
    Calls Tryz.prog 41 #[rdv rb, .bool true, .bool true] w (ScanE s rb E w) := by
  rcases hx with ⟨rfl, rfl⟩ | ⟨p, hm, hc, hp, hps, hp2, hd⟩
  · exact scanExp_end rb s pr te ve w h hs hE heq hrb
  · have hn : s.size - p = 1 ∨ s.size - p = 2 := by omega
    have hd' : ∀ q, q < s.size - p → 48 ≤ byt s (p + q) ∧ byt s (p + q) ≤ 57 := fun q hq => hd (p + q) (by omega) (by omega)
    have hlt : numTo s p (s.size - p) < 100 := by
      have h1 := numTo_lt s p (s.size - p) (fun q hq => (hd' q hq).2)
      have h2 : 10 ^ (s.size - p) ≤ 10 ^ 2 := Nat.pow_le_pow_right (by omega) (by omega)
      have h3 : (10 : Nat) ^ 2 = 100 := rfl
      omega
    rcases hp with ⟨h1, rfl⟩ | ⟨h1, ⟨h2, rfl⟩ | ⟨h2, rfl⟩⟩
    · exact scanExp_some rb s m p false _ pr te ve w h hs hm hc (.inl ⟨h1, rfl⟩) hps hd hE (parse_plain hn hd' hlt) heq hrb
    · exact scanExp_some rb s m p false _ pr te ve w h hs hm hc (.inr ⟨h1, .inl ⟨h2, rfl⟩⟩) hps hd hE (parse_plain hn hd' hlt) heq hrb
    · exact scanExp_some rb s m p true _ pr te ve w h hs hm hc (.inr ⟨h1, .inr ⟨h2, rfl⟩⟩) hps hd hE (parse_minus hn hd' hlt) heq hrb
end Go.Proofs.YtbnmgopobmiadaaGreatDoor
