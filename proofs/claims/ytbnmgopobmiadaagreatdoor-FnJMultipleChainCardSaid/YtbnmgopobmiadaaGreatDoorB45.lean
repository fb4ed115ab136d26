/- A Number as a Rat: numVal, Rat. -/
import Derived.Test.YtbnmgopobmiadaaGreatDoorB44
import Derived.WideMake
import Derived.Outline
import Derived.Laws.Tables

set_option linter.unusedSimpArgs false
set_option linter.unusedVariables false

namespace Go.Proofs.YtbnmgopobmiadaaGreatDoor
open Go.RowKit

/-- a Number as an interface value -/
def num (s : ByteArray) : Value := .iface 37 (.string s)
def nKey : Value := .string ⟨#[110]⟩
def nMap (s : ByteArray) : Obj := .map #[{ key := nKey, val := num s, born := 0 }] 1

theorem run_lookup_n (w : World) (r : Nat) (s : ByteArray) (h : w.heap[r]? = some (nMap s)) : (Instr.lookup 54 (.map (some r)) (.string ⟨#[110]⟩) true).run Tryz.prog w = .ok (.tuple #[num s, .bool true]) w := by
  have hf : Instr.findNow .string (.string ⟨#[110]⟩) [{ key := nKey, val := num s, born := 0 }] 0 = some (some (0, num s)) := rfl
  have hc : (Instr.checkKey false 10000 9 (.string ⟨#[110]⟩)).run Tryz.prog w = .ok () w := MapKept.run_checkKey (k := .string ⟨#[110]⟩) Tryz.underlying9 (by simp [MapKept.IsKey]) false 9999
  unfold nMap at h
  simp [Instr.lookup, run_underlying Tryz.underlying54, MapKept.run_getObj_map h, hc, MapKept.run_findKey Tryz.underlying9 hf, Result.andThen]

theorem assert_num (s : ByteArray) (w : World) : (Instr.typeAssert (num s) 20 37 true).run Tryz.prog w = .ok (.tuple #[.string s, .bool true]) w := by kernel_rfl

theorem run_insert_n (w : World) (s : ByteArray) : ∃ w1, (Instr.mapUpdate 54 (.map (some w.heap.size)) (.string ⟨#[110]⟩) (.iface 37 (.string s))).run Tryz.prog (w.alloc (.map #[] 0)) = .ok () w1 ∧ w1.heap[w.heap.size]? = some (nMap s) ∧ Chg (fun _ => False) w w1 ∧ w1.heap.size = w.heap.size + 1 := by
  have hb := heap_alloc_new w (.map #[] 0)
  have h := run_mapUpdate_first (P := Tryz.prog) (w.alloc (.map #[] 0)) 54 9 20 w.heap.size 0 ⟨#[110]⟩ (.iface 37 (.string s)) Tryz.underlying54 Tryz.underlying9 hb
  have hl : w.heap.size < (w.alloc (.map #[] 0)).heap.size := by rw [alloc_size]; omega
  refine ⟨_, h, ?_, ⟨rfl, rfl, rfl, ?_, fun k hk _ => ?_⟩, ?_⟩
  · show ((w.alloc (.map #[] 0)).heap.setIfInBounds w.heap.size _)[w.heap.size]? = _
    rw [Array.getElem?_setIfInBounds_self_of_lt hl]; rfl
  · show w.heap.size ≤ ((w.alloc (.map #[] 0)).heap.setIfInBounds w.heap.size _).size
    rw [Array.size_setIfInBounds]; omega
  · show ((w.alloc (.map #[] 0)).heap.setIfInBounds w.heap.size _)[k]? = _
    rw [Array.getElem?_setIfInBounds_ne (by omega)]
    exact Below.heap_alloc _ _ _ hk
  · show ((w.alloc (.map #[] 0)).heap.setIfInBounds w.heap.size _).size = _
    rw [Array.size_setIfInBounds, alloc_size]

/-- what the law's calls ask of the world: io.EOF and the thresholds -/
structure Env (te : TypeId) (ve : Value) (w : World) : Prop where
  eof : w.cell? ⟨0, 0, none⟩ = some (.iface te ve)
  g3 : w.cell? ⟨3, 0, none⟩ = some (.int .i64 40)
  g4 : w.cell? ⟨4, 0, none⟩ = some (.int .i64 12)
  g5 : w.cell? ⟨5, 0, none⟩ = some (.int .i64 80)
  g7 : w.cell? ⟨7, 0, none⟩ = some (.int .i64 40)
  big : 12 ≤ w.heap.size
theorem Env.keep {te : TypeId} {ve : Value} {S : Nat → Prop} {w w' : World} (h : Env te ve w) (hc : Chg S w w') (hs : ∀ k, k < 12 → ¬ S k) : Env te ve w' :=
  ⟨hc.cell h.eof (hs 0 (by omega)), hc.cell h.g3 (hs 3 (by omega)), hc.cell h.g4 (hs 4 (by omega)), hc.cell h.g5 (hs 5 (by omega)), hc.cell h.g7 (hs 7 (by omega)), Nat.le_trans h.big hc.size⟩
/-- how io.EOF compares -/
structure EofEq (te : TypeId) (ve : Value) : Prop where
  eq : ∀ w, (binOp .eql 62 (.iface te ve) (.iface te ve)).run Tryz.prog w = .ok (.bool true) w
  ne : ∀ w, (binOp .eql 62 .nilIface (.iface te ve)).run Tryz.prog w = .ok (.bool false) w
  nq : ∀ w, (binOp .neq 62 (.iface te ve) (.iface te ve)).run Tryz.prog w = .ok (.bool false) w

/-- a text's number: sign, numerator and denominator, not reduced -/
def NumOf (s : ByteArray) (neg : Bool) (P Q : Nat) : Prop := ∃ i n dot E, Dec s i n dot E ∧ numTo s i n ≠ 0 ∧ neg = decide (i = 1) ∧ P = decP (numTo s i n) (fexp s i n dot + E) ∧ Q = decQ (fexp s i n dot + E)

/-- a pointer to a new Rat that is the number P/Q, reduced -/
def RatIs (P Q : Nat) (w : World) (b : Nat) (w' : World) : Prop := ∃ neg va vb, Rm w' b neg va (P / Nat.gcd P Q) false vb (Q / Nat.gcd P Q) ∧ (∀ k, RegR b va vb k → w.heap.size ≤ k) ∧ Chg (fun _ => False) w w'
def RatGot (P Q : Nat) (w : World) (e : Ending) (w' : World) : Prop := ∃ b, e = .returned (.pointer (some ⟨b, 0, none⟩)) ∧ RatIs P Q w b w'

theorem Row4.new (w : World) : Row4 (w.alloc (.cells #[.bool false, .slice none 0 0, .bool false, .slice none 0 0] 86)) w.heap.size (.bool false) (.slice none 0 0) (.bool false) (.slice none 0 0) := ⟨86, heap_alloc_new w _⟩

/-- SetString on a new Rat -/
theorem setNew (s : ByteArray) (neg : Bool) (P Q : Nat) (te : TypeId) (ve : Value) (w : World) (hN : NumOf s neg P Q) (hE : Env te ve w) (hq : EofEq te ve) :
    Calls Tryz.prog 31 #[.pointer (some ⟨w.heap.size, 0, none⟩), .string s] (w.alloc (.cells #[.bool false, .slice none 0 0, .bool false, .slice none 0 0] 86)) (SetS w.heap.size neg P Q (w.alloc (.cells #[.bool false, .slice none 0 0, .bool false, .slice none 0 0] 86))) := by
  obtain ⟨i, n, dot, E, hD, h0, rfl, rfl, rfl⟩ := hN
  have hE2 := hE.keep ((Chg.refl (fun _ => False) w).alloc (.cells #[.bool false, .slice none 0 0, .bool false, .slice none 0 0] 86)) (fun _ _ h => h)
  exact setString w.heap.size s i n dot E te ve _ (Row4.new w) hD h0 hE2.eof hq.eq hq.ne hq.nq hE.big hE2.g3 hE2.g4 hE2.g5 hE2.g7
theorem setNew_is {P Q : Nat} {neg : Bool} {w w' : World} {e : Ending} (h : SetS w.heap.size neg P Q (w.alloc (.cells #[.bool false, .slice none 0 0, .bool false, .slice none 0 0] 86)) e w') :
    e = .returned (.tuple #[.pointer (some ⟨w.heap.size, 0, none⟩), .bool true]) ∧ RatIs P Q w w.heap.size w' := by
  obtain ⟨he, va, vb, hm, hc, hr⟩ := h
  exact ⟨he, neg, va, vb, hm, fun k hk => by
    rw [alloc_size] at hr
    rcases hr k hk with h | h <;> omega, ((Chg.refl (fun _ => False) w).alloc _).trans hc (fun _ h => h) (fun k hk h => by omega)⟩

set_option maxHeartbeats 1000000 in
set_option maxRecDepth 100000 in
theorem numVal_any (ob r : Nat) (s : ByteArray) (neg : Bool) (P Q : Nat) (te : TypeId) (ve : Value) (w : World) (h1 : w.cell? ⟨ob, 1, none⟩ = some (.map (some r))) (hm : w.heap[r]? = some (nMap s)) (hN : NumOf s neg P Q) (hE : Env te ve w) (hq : EofEq te ve) :
    Calls Tryz.prog 21 #[.pointer (some ⟨ob, 0, none⟩), .string ⟨#[110]⟩] w (RatGot P Q w) := by
  have hlook := run_lookup_n w r s hm
  have has := fun w => assert_num s w
  have hset := setNew s neg P Q te ve w hN hE hq
  unfold num at hlook has
  have HS := Lib.hid hset
  clear hset hm hN hE hq
  go_enter Tryz.func21, Tryz.ntmps21
  go_wp2_with fail
  refine HS.out.mono ?_
  rintro e w2 hs
  obtain ⟨rfl, hr⟩ := setNew_is hs
  have HR := Lib.hid hr
  clear hs hr
  go_wp2
  go_ret
  exact ⟨_, rfl, HR.out⟩

set_option maxHeartbeats 1000000 in
set_option maxRecDepth 100000 in
theorem rat_any (s : ByteArray) (neg : Bool) (P Q : Nat) (te : TypeId) (ve : Value) (w : World) (hN : NumOf s neg P Q) (hE : Env te ve w) (hq : EofEq te ve) :
    Calls Tryz.prog 11 #[.string s] w (RatGot P Q w) := by
  have hmm := @run_makeMap Tryz.prog
  obtain ⟨w1, hrun, hmap, hc, hsz⟩ := run_insert_n w s
  have hc2 := hc.alloc (.cells #[.pointer none, .map (some w.heap.size), .string ⟨#[]⟩, .string ⟨#[]⟩, .pointer none, .pointer none, .pointer none] 79)
  have hcell : (w1.alloc (.cells #[.pointer none, .map (some w.heap.size), .string ⟨#[]⟩, .string ⟨#[]⟩, .pointer none, .pointer none, .pointer none] 79)).cell? ⟨w1.heap.size, 1, none⟩ = some (.map (some w.heap.size)) := by
    rw [World.cell?_alloc_at _ _ _ _ rfl]; rfl
  have hnv := numVal_any w1.heap.size w.heap.size s neg P Q te ve _ hcell ((Below.heap_alloc _ _ _ (by omega)).trans hmap) hN (hE.keep hc2 (fun _ _ h => h)) hq
  have HS := Lib.hid hnv
  have HC := Lib.hid hc2
  clear hmap hc hsz hN hE hq hnv hc2 hcell
  go_enter Tryz.func11, Tryz.ntmps11
  go_wp2_with fail
  refine HS.out.mono ?_
  rintro e w3 ⟨b, rfl, neg', va, vb, hm, hb, hc3⟩
  have HR : Hid (RatIs P Q w b w3) := Lib.hid ⟨neg', va, vb, hm, fun k hk => Nat.le_trans HC.out.size (hb k hk), HC.out.trans hc3 (fun _ h => h) (fun _ _ h => h.elim)⟩
  clear hm hb hc3
  go_wp2
  go_ret
  exact ⟨_, rfl, HR.out⟩
end Go.Proofs.YtbnmgopobmiadaaGreatDoor

/- numText, isInteger, numValidate's closure. -/
namespace Go.Proofs.YtbnmgopobmiadaaGreatDoor
open Go.RowKit

theorem NumOf.pos {s : ByteArray} {neg : Bool} {P Q : Nat} (h : NumOf s neg P Q) : P ≠ 0 ∧ Q ≠ 0 ∧ wlen P ≤ 14 ∧ wlen Q ≤ 11 := by
  obtain ⟨i, n, dot, E, hD, h0, _, rfl, rfl⟩ := h
  have hsz := hD.size
  have hmn := hD.mant.size
  have hf := fexp_bound (s := s) (i := i) (n := n) (dot := dot) (by omega)
  have hE := hD.expo.bound
  have hl10 : ∀ k, k ≤ 200 → wlen (10 ^ k) ≤ 11 := fun k hk => by
    refine wlen_le (Nat.lt_of_le_of_lt (Nat.pow_le_pow_right (by omega) hk) ?_)
    unfold B; decide
  have hN3 : wlen (numTo s i n) ≤ 3 := by
    have hM := hD.mant
    have h1 := numTo_lt s i n (fun q hq => by have := hM.byte q hq; omega)
    have h2 : 10 ^ n ≤ 10 ^ 40 := Nat.pow_le_pow_right (by omega) (by omega)
    have h3 : (10 : Nat) ^ 40 < B ^ 3 := by unfold B; decide
    exact wlen_le (by omega)
  obtain ⟨x, hx⟩ : ∃ x, x = fexp s i n dot + E := ⟨_, rfl⟩
  rw [← hx]
  have h1 := hl10 x.toNat (by omega)
  have h2 := hl10 (-x).toNat (by omega)
  refine ⟨Nat.mul_ne_zero h0 (Nat.pos_iff_ne_zero.1 (Nat.pow_pos (by omega))), Nat.pos_iff_ne_zero.1 (Nat.pow_pos (by omega)), ?_, h2⟩
  exact wlen_le (Nat.lt_of_lt_of_le (lt_pow_mul (lt_wlen _) (lt_wlen _)) (Nat.pow_le_pow_right B_pos (by omega)))
theorem div_gcd_ne {P Q : Nat} (hP : P ≠ 0) (hQ : Q ≠ 0) : P / Nat.gcd P Q ≠ 0 ∧ Q / Nat.gcd P Q ≠ 0 := by
  have hg : 0 < Nat.gcd P Q := Nat.pos_of_ne_zero (fun h => hQ (Nat.eq_zero_of_gcd_eq_zero_right h))
  refine ⟨fun h => ?_, fun h => ?_⟩
  · have := Nat.div_mul_cancel (Nat.gcd_dvd_left P Q)
    rw [h] at this; omega
  · have := Nat.div_mul_cancel (Nat.gcd_dvd_right P Q)
    rw [h] at this; omega
theorem wlen_div_le (X g : Nat) : wlen (X / g) ≤ wlen X := wlen_mono (Nat.div_le_self _ _)

theorem numText_any (s : ByteArray) (w : World) : Calls Tryz.prog 104 #[num s] w fun e w' => e = .returned (.string s) ∧ w = w' := by
  have has := fun w => assert_num s w
  unfold num at has ⊢
  go_enter Tryz.func104, Tryz.ntmps104
  go_wp2
  go_ret
  exact ⟨rfl, rfl⟩

/-- whether a number is whole -/
def IntIs (Q g : Nat) (w : World) (e : Ending) (w' : World) : Prop := e = .returned (.bool (decide (Q / g = 1))) ∧ Chg (fun _ => False) w w'
set_option maxHeartbeats 1000000 in
set_option maxRecDepth 100000 in
theorem isInteger_any (s : ByteArray) (neg : Bool) (P Q : Nat) (te : TypeId) (ve : Value) (w : World) (hN : NumOf s neg P Q) (hE : Env te ve w) (hq : EofEq te ve) :
    Calls Tryz.prog 55 #[num s] w (IntIs Q (Nat.gcd P Q) w) := by
  have hset := setNew s neg P Q te ve w hN hE hq
  have hnt := fun w => numText_any s w
  have hpos := hN.pos
  have HS := Lib.hid (And.intro hset hpos)
  have HT := Lib.hid hnt
  clear hset hN hE hq hpos hnt
  unfold num at HT ⊢
  go_enter Tryz.func55, Tryz.ntmps55
  go_wp2_with fail
  refine (HT.out _).mono ?_
  rintro e w' ⟨rfl, rfl⟩
  go_wp2_with fail
  refine HS.out.1.mono ?_
  rintro e w2 hs
  obtain ⟨rfl, neg', va, vb, hm, hb, hc⟩ := setNew_is hs
  have hp := HS.out.2
  have hint := ratIsInt w.heap.size neg' false va vb (P / Nat.gcd P Q) (Q / Nat.gcd P Q) w2 hm (div_gcd_ne hp.1 hp.2.1).2 (by have := wlen_div_le Q (Nat.gcd P Q); omega)
  have HC := Lib.hid hc
  have HI := Lib.hid hint
  clear hs hm hb hc hp hint
  go_wp2_with fail
  refine HI.out.mono ?_
  rintro e w3 ⟨rfl, hc3⟩
  have HF : Hid (Chg (fun _ => False) w w3) := Lib.hid (HC.out.trans hc3 (fun _ h => h) (fun _ _ h => h.elim))
  clear hc3 HI HC
  obtain ⟨d, hd⟩ : ∃ d, d = decide (Q / Nat.gcd P Q = 1) := ⟨_, rfl⟩
  rw [← hd]
  have HD := Lib.hid hd
  clear hd
  go_wp2
  go_ret
  exact ⟨by rw [← HD.out]; rfl, HF.out⟩

/-- the closure's first call -/
def Num1 (X x nb : Nat) (w : World) (e : Ending) (w' : World) : Prop :=
  ∃ b neg va vb, e = .returned (.pointer (some ⟨b, 0, none⟩)) ∧ Rm w' b neg va X false vb x ∧ (∀ k, RegR b va vb k → w.heap.size ≤ k) ∧ w'.cell? ⟨nb, 0, none⟩ = some (.pointer (some ⟨b, 0, none⟩)) ∧ Chg (fun k => k = nb) w w'
set_option maxHeartbeats 1000000 in
set_option maxRecDepth 100000 in
theorem num_first (nb vb : Nat) (s : ByteArray) (neg : Bool) (P Q : Nat) (te : TypeId) (ve : Value) (w : World) (hn : w.heap[nb]? = some (.cells #[.pointer none] 35 (0, 0))) (hv : w.cell? ⟨vb, 0, none⟩ = some (num s)) (hN : NumOf s neg P Q) (hE : Env te ve w) (hq : EofEq te ve) :
    Calls Tryz.prog 116 #[.pointer (some ⟨nb, 0, none⟩), .pointer (some ⟨vb, 0, none⟩)] w (Num1 (P / Nat.gcd P Q) (Q / Nat.gcd P Q) nb w) := by
  have c0 : w.cell? ⟨nb, 0, none⟩ = some (.pointer none) := by simp [World.cell?, hn]
  have hnl := (Array.getElem?_eq_some_iff.1 hn).1
  have hset := setNew s neg P Q te ve w hN hE hq
  have hnt := fun w => numText_any s w
  have HS := Lib.hid (And.intro hset (And.intro hn hnl))
  have HT := Lib.hid hnt
  clear hset hN hE hq hnt hn
  unfold num at HT hv
  have hv2 : (w.alloc (.cells #[.bool false, .slice none 0 0, .bool false, .slice none 0 0] 86)).cell? ⟨vb, 0, none⟩ = some (.iface 37 (.string s)) := ((Chg.refl (fun _ => False) w).alloc _).cell hv (fun h => h)
  go_enter Tryz.func116, Tryz.ntmps116
  go_wp2_with fail
  refine (HT.out _).mono ?_
  rintro e w' ⟨rfl, rfl⟩
  go_wp2_with fail
  refine HS.out.1.mono ?_
  rintro e w2 hs
  obtain ⟨rfl, neg', va, vb', hm, hb, hc⟩ := setNew_is hs
  have hn2 : w2.heap[nb]? = some (.cells #[.pointer none] 35 (0, 0)) := (hc.keep nb HS.out.2.2 (fun h => h)).trans HS.out.2.1
  have e0 : w2.cell? ⟨nb, 0, none⟩ = some (.pointer none) := by simp [World.cell?, hn2]
  have ef : w2.frozen? ⟨nb, 0, none⟩ = false := by simp [World.frozen?, hn2]
  have e1 : (w2.setCell ⟨nb, 0, none⟩ (.pointer (some ⟨w.heap.size, 0, none⟩))).cell? ⟨nb, 0, none⟩ = some (.pointer (some ⟨w.heap.size, 0, none⟩)) := by
    have := setCell_block w2 nb 0 (.pointer (some ⟨w.heap.size, 0, none⟩)) hn2
    simp [World.cell?, this]
  have HF : Hid (Num1 (P / Nat.gcd P Q) (Q / Nat.gcd P Q) nb w (.returned (.pointer (some ⟨w.heap.size, 0, none⟩))) (w2.setCell ⟨nb, 0, none⟩ (.pointer (some ⟨w.heap.size, 0, none⟩)))) := by
    refine Lib.hid ⟨_, neg', va, vb', rfl, hm.keep ((Chg.refl (fun k => k = nb) w2).setCell (a := ⟨nb, 0, none⟩) (fun _ => rfl) _) (fun k hk e => by have h1 : k = nb := e; have := hb k hk; have := HS.out.2.2; omega), hb, e1, (hc.trans (Chg.refl (fun k => k = nb) w2) (U := fun k => k = nb) (fun _ h => h.elim) (fun _ _ h => h)).setCell (a := ⟨nb, 0, none⟩) (fun _ => rfl) _⟩
  clear hs hm hb hc hn2
  go_wp2
  go_ret
  exact HF.out
end Go.Proofs.YtbnmgopobmiadaaGreatDoor

/- A Schema's memory; the validator's small functions. -/
namespace Go.Proofs.YtbnmgopobmiadaaGreatDoor
open Go.RowKit

/-- the cells of a Schema that has Types and MultipleOf alone -/
def sch60 (p q : Value) : Array Value :=
  #[.string ⟨#[]⟩, .string ⟨#[]⟩, .pointer none, .map none, .bool false, .bool false, .int .i64 0, .int .i64 2020, .string ⟨#[]⟩,
    .pointer none, .string ⟨#[]⟩, .pointer none, .string ⟨#[]⟩, .pointer none, .bool false, .pointer none, .string ⟨#[]⟩, p, .pointer none, .pointer none, .pointer none, .slice none 0 0, .slice none 0 0, .slice none 0 0, .pointer none, .pointer none, .pointer none, .pointer none,
    .pointer none, .pointer none, .slice none 0 0, .pointer none, .map none, .map none, .nilIface, .map none, .map none, .map none, .pointer none,
    .pointer none, .pointer none, .bool false, .pointer none, .pointer none, .pointer none, .nilIface, .nilIface, .slice none 0 0, .pointer none, .pointer none,
    .pointer none, .pointer none, .nilIface,
    .pointer none, .pointer none, .pointer none, .pointer none, q,
    .string ⟨#[]⟩, .string ⟨#[]⟩, .pointer none, .string ⟨#[]⟩, .bool false, .bool false, .slice none 0 0, .bool false]
theorem built_mul (a : Option Addr) : Tryz.prog.built 60 [(6, .int .i64 2020), (56, .pointer a)] = some (sch60 (.pointer none) (.pointer a)) := by kernel_rfl
theorem built_typ (a : Option Addr) : Tryz.prog.built 60 [(6, .int .i64 2020), (16, .pointer a)] = some (sch60 (.pointer a) (.pointer none)) := by kernel_rfl

/-- block sb is such a Schema -/
def Sch (w : World) (sb : Nat) (p q : Value) : Prop := w.heap[sb]? = some (.cells (sch60 p q) 60 (0, 0))
theorem Sch.get {w : World} {sb : Nat} {p q : Value} (h : Sch w sb p q) (i : Nat) {v : Value} (hv : (sch60 p q)[i]? = some v) : w.cell? ⟨sb, i, none⟩ = some v := by
  unfold Sch at h
  simp only [World.cell?, h]; exact hv
theorem Sch.keep {S : Nat → Prop} {w w' : World} {sb : Nat} {p q : Value} (h : Sch w sb p q) (hc : Chg S w w') (hs : ¬ S sb) : Sch w' sb p q :=
  (hc.keep sb (Array.getElem?_eq_some_iff.1 h).1 hs).trans h
theorem Sch.lt {w : World} {sb : Nat} {p q : Value} (h : Sch w sb p q) : sb < w.heap.size := (Array.getElem?_eq_some_iff.1 h).1

theorem as54 (s : ByteArray) (w : World) : (Instr.typeAssert (.iface 37 (.string s)) 20 54 true).run Tryz.prog w = .ok (.tuple #[.map none, .bool false]) w := by kernel_rfl
theorem as58 (s : ByteArray) (w : World) : (Instr.typeAssert (.iface 37 (.string s)) 20 58 true).run Tryz.prog w = .ok (.tuple #[.slice none 0 0, .bool false]) w := by kernel_rfl
theorem as9 (s : ByteArray) (w : World) : (Instr.typeAssert (.iface 37 (.string s)) 20 9 true).run Tryz.prog w = .ok (.tuple #[.string ⟨#[]⟩, .bool false]) w := by kernel_rfl
theorem as37 (s : ByteArray) (w : World) : (Instr.typeAssert (.iface 37 (.string s)) 20 37 true).run Tryz.prog w = .ok (.tuple #[.string s, .bool true]) w := by kernel_rfl
theorem as4 (s : ByteArray) (w : World) : (Instr.typeAssert (.iface 37 (.string s)) 20 4 true).run Tryz.prog w = .ok (.tuple #[.bool false, .bool false]) w := by kernel_rfl
theorem as222 (s : ByteArray) (w : World) : (Instr.typeAssert (.iface 37 (.string s)) 20 222 true).run Tryz.prog w = .ok (.tuple #[.float .f64 0, .bool false]) w := by kernel_rfl
theorem as225 (s : ByteArray) (w : World) : (Instr.typeAssert (.iface 37 (.string s)) 20 225 true).run Tryz.prog w = .ok (.tuple #[.float .f32 0, .bool false]) w := by kernel_rfl
theorem as3 (s : ByteArray) (w : World) : (Instr.typeAssert (.iface 37 (.string s)) 20 3 true).run Tryz.prog w = .ok (.tuple #[.int .i64 0, .bool false]) w := by kernel_rfl
theorem as226 (s : ByteArray) (w : World) : (Instr.typeAssert (.iface 37 (.string s)) 20 226 true).run Tryz.prog w = .ok (.tuple #[.int .i8 0, .bool false]) w := by kernel_rfl
theorem as227 (s : ByteArray) (w : World) : (Instr.typeAssert (.iface 37 (.string s)) 20 227 true).run Tryz.prog w = .ok (.tuple #[.int .i16 0, .bool false]) w := by kernel_rfl
theorem as21 (s : ByteArray) (w : World) : (Instr.typeAssert (.iface 37 (.string s)) 20 21 true).run Tryz.prog w = .ok (.tuple #[.int .i32 0, .bool false]) w := by kernel_rfl
theorem as2 (s : ByteArray) (w : World) : (Instr.typeAssert (.iface 37 (.string s)) 20 2 true).run Tryz.prog w = .ok (.tuple #[.int .i64 0, .bool false]) w := by kernel_rfl
theorem as135 (s : ByteArray) (w : World) : (Instr.typeAssert (.iface 37 (.string s)) 20 135 true).run Tryz.prog w = .ok (.tuple #[.int .u64 0, .bool false]) w := by kernel_rfl
theorem as5 (s : ByteArray) (w : World) : (Instr.typeAssert (.iface 37 (.string s)) 20 5 true).run Tryz.prog w = .ok (.tuple #[.int .u8 0, .bool false]) w := by kernel_rfl
theorem as228 (s : ByteArray) (w : World) : (Instr.typeAssert (.iface 37 (.string s)) 20 228 true).run Tryz.prog w = .ok (.tuple #[.int .u16 0, .bool false]) w := by kernel_rfl
theorem as229 (s : ByteArray) (w : World) : (Instr.typeAssert (.iface 37 (.string s)) 20 229 true).run Tryz.prog w = .ok (.tuple #[.int .u32 0, .bool false]) w := by kernel_rfl
theorem as230 (s : ByteArray) (w : World) : (Instr.typeAssert (.iface 37 (.string s)) 20 230 true).run Tryz.prog w = .ok (.tuple #[.int .u64 0, .bool false]) w := by kernel_rfl

set_option maxHeartbeats 1000000 in
set_option maxRecDepth 100000 in
theorem typeOf_num (s : ByteArray) (w : World) : Calls Tryz.prog 52 #[num s] w fun e w' => e = .returned (.int .i64 8) ∧ w = w' := by
  have h4 := fun w => as4 s w
  have h222 := fun w => as222 s w
  have h225 := fun w => as225 s w
  have h37 := fun w => as37 s w
  have h3 := fun w => as3 s w
  have h226 := fun w => as226 s w
  have h227 := fun w => as227 s w
  have h21 := fun w => as21 s w
  have h2 := fun w => as2 s w
  have h135 := fun w => as135 s w
  have h5 := fun w => as5 s w
  have h228 := fun w => as228 s w
  have h229 := fun w => as229 s w
  have h230 := fun w => as230 s w
  unfold num
  go_enter Tryz.func52, Tryz.ntmps52
  go_wp2
  go_ret
  exact ⟨rfl, rfl⟩

/-- a scope without a parent -/
def Scp (w : World) (pb : Nat) (sch : Value) : Prop := w.heap[pb]? = some (.cells #[sch, .string ⟨#[]⟩, .int .i64 0, .pointer none] 99 (0, 0))
set_option maxRecDepth 100000 in
theorem checkCycle_top (pb : Nat) (sch : Value) (w : World) (h : Scp w pb sch) : Calls Tryz.prog 50 #[.pointer (some ⟨pb, 0, none⟩)] w fun e w' => e = .returned (.pointer none) ∧ w = w' := by
  have c3 : w.cell? ⟨pb, 3, none⟩ = some (.pointer none) := by unfold Scp at h; simp [World.cell?, h]
  clear h
  go_enter Tryz.func50, Tryz.ntmps50
  go_wp2
  refine wp_loop_rounds 1 ?_
  rw [rounds_succ]
  go_wp2
  go_ret
  exact ⟨rfl, rfl⟩

set_option maxHeartbeats 1000000 in
set_option maxRecDepth 100000 in
theorem unevalFrom_num (s : ByteArray) (sch : Value) (w : World) : Calls Tryz.prog 32 #[num s, sch, .bool false] w fun e w' => e = .returned (.pointer (some ⟨w.heap.size, 0, none⟩)) ∧ w' = w.alloc (.cells #[.map none, .map none] 142) := by
  have h54 := fun w => as54 s w
  have h58 := fun w => as58 s w
  unfold num
  go_enter Tryz.func32, Tryz.ntmps32
  go_wp2
  go_ret
  exact ⟨rfl, rfl⟩
end Go.Proofs.YtbnmgopobmiadaaGreatDoor
