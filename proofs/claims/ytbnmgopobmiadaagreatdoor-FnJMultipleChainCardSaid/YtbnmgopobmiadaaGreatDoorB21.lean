/- big.Int: its memory; contracts of Set, Abs, mulW. -/
import Derived.Test.YtbnmgopobmiadaaGreatDoorB16
import Derived.Lib.SliceRun
import Derived.RegionTactic
import Derived.Deep.RegionWith
import Derived.StillTailTactics

set_option linter.unusedSimpArgs false
set_option linter.unusedVariables false

namespace Go.Proofs.YtbnmgopobmiadaaGreatDoor
open Go.RowKit

/-- a block of two cells -/
def Pair (w : World) (b : Nat) (x y : Value) : Prop := ∃ e, w.heap[b]? = some (.cells #[x, y] e (0, 0))
theorem Pair.c0 {w : World} {b : Nat} {x y : Value} (h : Pair w b x y) : w.cell? ⟨b, 0, none⟩ = some x := by
  obtain ⟨e, h⟩ := h; simp [World.cell?, h]
theorem Pair.c1 {w : World} {b : Nat} {x y : Value} (h : Pair w b x y) : w.cell? ⟨b, 1, none⟩ = some y := by
  obtain ⟨e, h⟩ := h; simp [World.cell?, h]
theorem Pair.frozen {w : World} {b : Nat} {x y : Value} (h : Pair w b x y) (j : Nat) : w.frozen? ⟨b, j, none⟩ = false := by
  obtain ⟨e, h⟩ := h; simp [World.frozen?, h]
theorem Pair.lt {w : World} {b : Nat} {x y : Value} (h : Pair w b x y) : b < w.heap.size := by
  obtain ⟨e, h⟩ := h; exact (Array.getElem?_eq_some_iff.1 h).1
theorem Pair.keep {S : Nat → Prop} {w w' : World} {b : Nat} {x y : Value} (h : Pair w b x y) (hc : Chg S w w') (hs : ¬ S b) : Pair w' b x y := by
  have hl := h.lt
  obtain ⟨e, h⟩ := h
  exact ⟨e, (hc.keep b hl hs).trans h⟩
theorem Pair.set0 {w : World} {b : Nat} {x y : Value} (h : Pair w b x y) (v : Value) : Pair (w.setCell ⟨b, 0, none⟩ v) b v y := by
  obtain ⟨e, h⟩ := h
  exact ⟨e, (setCell_block _ _ _ _ h).trans (by simp)⟩
theorem Pair.set1 {w : World} {b : Nat} {x y : Value} (h : Pair w b x y) (v : Value) : Pair (w.setCell ⟨b, 1, none⟩ v) b x v := by
  obtain ⟨e, h⟩ := h
  exact ⟨e, (setCell_block _ _ _ _ h).trans (by simp)⟩
theorem Pair.drewN {w : World} {b : Nat} {x y : Value} (h : Pair w b x y) (k : Nat) : Pair (w.drewN k) b x y := h

/-- block b is an Int of the sign s and the number X, its words in v -/
structure Im (w : World) (b : Nat) (s : Bool) (v : Value) (X : Nat) : Prop where
  blk : Pair w b (.bool s) v
  nv : Nv w v X
  own : v.ownBlock ≠ some b
/-- the Int at b, o reads so -/
structure Ir (w : World) (b o : Nat) (s : Bool) (v : Value) (X : Nat) : Prop where
  c0 : w.cell? ⟨b, o, none⟩ = some (.bool s)
  c1 : w.cell? ⟨b, o + 1, none⟩ = some v
  nv : Nv w v X
  pl : Wb w b o 2
theorem Pair.wb {w : World} {b : Nat} {x y : Value} (h : Pair w b x y) : Wb w b 0 2 := by
  obtain ⟨e, h⟩ := h
  exact ⟨_, e, h, by simp⟩
theorem Im.ir {w : World} {b : Nat} {s : Bool} {v : Value} {X : Nat} (h : Im w b s v X) : Ir w b 0 s v X := ⟨h.blk.c0, h.blk.c1, h.nv, h.blk.wb⟩
/-- what belongs to an Int -/
def Reg (b : Nat) (v : Value) (k : Nat) : Prop := k = b ∨ v.ownBlock = some k
theorem Im.keep {S : Nat → Prop} {w w' : World} {b : Nat} {s : Bool} {v : Value} {X : Nat} (h : Im w b s v X) (hc : Chg S w w') (hs : ∀ k, Reg b v k → ¬ S k) : Im w' b s v X :=
  ⟨h.blk.keep hc (hs b (.inl rfl)), h.nv.keep hc (fun k hk => hs k (.inr hk)), h.own⟩
theorem Im.lt {w : World} {b : Nat} {s : Bool} {v : Value} {X : Nat} (h : Im w b s v X) : ∀ k, Reg b v k → k < w.heap.size := by
  rintro k (rfl | hk)
  · exact h.blk.lt
  · exact h.nv.lt k hk

/-- an Int is given a new value -/
def ImGives (b : Nat) (vz : Value) (s : Bool) (Z : Nat) (r : Value) (w : World) (e : Ending) (w' : World) : Prop :=
  e = .returned r ∧ ∃ v, Im w' b s v Z ∧ Chg (Reg b vz) w w' ∧ ∀ k, v.ownBlock = some k → vz.ownBlock = some k ∨ w.heap.size ≤ k

/-- the nat's new words are stored, then the sign -/
theorem im_gives {w w2 : World} {b : Nat} {s s' : Bool} {vz v : Value} {Z0 Z : Nat} (h : Im w b s vz Z0) (hv : Nv w2 v Z) (hc : Chg (fun k => vz.ownBlock = some k) w w2)
    (ho : ∀ k, v.ownBlock = some k → vz.ownBlock = some k ∨ w.heap.size ≤ k) (r : Value) (e : Ending) (he : e = .returned r) :
    ImGives b vz s' Z r w e ((w2.setCell ⟨b, 1, none⟩ v).setCell ⟨b, 0, none⟩ (.bool s')) := by
  have hb := h.blk.lt
  have hbo : ¬ v.ownBlock = some b := fun hk => by
    rcases ho _ hk with h1 | h1
    · exact h.own h1
    · omega
  have hp := h.blk.keep hc (fun hk => h.own hk)
  have hc2 : Chg (fun k => k = b) w2 ((w2.setCell ⟨b, 1, none⟩ v).setCell ⟨b, 0, none⟩ (.bool s')) :=
    ((Chg.refl (fun k => k = b) w2).setCell (a := ⟨b, 1, none⟩) (fun _ => rfl) v).setCell (a := ⟨b, 0, none⟩) (fun _ => rfl) _
  refine ⟨he, v, ⟨(hp.set1 v).set0 _, hv.keep hc2 (fun k hk h => hbo (h ▸ hk)), hbo⟩, hc.trans hc2 (fun k h => .inr h) (fun k _ h => .inl h), ho⟩

set_option maxHeartbeats 4000000 in
set_option maxRecDepth 100000 in
theorem mulW (bz bx ox : Nat) (s sx neg : Bool) (vz vx : Value) (Z X y : Nat) (w : World) (hz : Im w bz s vz Z) (hx : Ir w bx ox sx vx X) (hX : wlen X ≤ 10000) (hy : y < B)
    (hd : (bx = bz ∧ ox = 0) ∨ (bx ≠ bz ∧ vz.ownBlock ≠ some bx ∧ Off (fun k => vz.ownBlock = some k) vx)) :
    Calls Tryz.prog 130 #[.pointer (some ⟨bz, 0, none⟩), .pointer (some ⟨bx, ox, none⟩), .bool neg, .int .u64 y] w (ImGives bz vz (sx != neg) (X * y) (.tuple #[]) w) := by
  have c0 := hx.c0
  have c1 := hx.c1
  have d1 := hz.blk.c1
  have hvv : vz.ownBlock = vx.ownBlock ∨ Off (fun k => vz.ownBlock = some k) vx := by
    rcases hd with ⟨rfl, rfl⟩ | ⟨_, _, h⟩
    · left; rw [d1] at c1; cases c1; rfl
    · exact .inr h
  have hmul := mulAddWW_any vz vx X y 0 w.drew hz.nv.st hx.nv (by omega) hy B_pos hvv
  rw [Nat.add_zero] at hmul
  have HM := Lib.hid hmul
  have HZ := Lib.hid (And.intro hz (And.intro hx (And.intro hd hX)))
  clear hz hx hd hvv hX hmul
  go_enter Tryz.func130, Tryz.ntmps130
  go_wp2
  go_region_with (go_at_call 70; refine HM.out.mono ?_; rintro e w2 ⟨v, rfl, hv, hc, ho⟩; obtain ⟨a, c, rfl⟩ := hv.shape; have hp := HZ.out.1.blk.keep hc.undrew (fun hk => HZ.out.1.own hk); have d2 := hp.c1; have d3 := hp.frozen 1)
  all_goals
    have hp' := (Pair.set1 hp (.slice a (wlen (X * y)) c))
    have f0 := hp'.c0
    have f1 := hp'.frozen 0
    have f2 : (w2.setCell ⟨bz, 1, none⟩ (.slice a (wlen (X * y)) c)).cell? ⟨bx, ox, none⟩ = some (.bool sx) := by
      obtain ⟨hz, hx, hd, hX⟩ := HZ.out
      rw [cell_set_ne _ _ _ _ _ _ (by rcases hd with ⟨rfl, rfl⟩ | ⟨h, _⟩; exact .inr (by omega); exact .inl h)]
      refine hc.undrew.cell c0 ?_
      rcases hd with ⟨rfl, _⟩ | ⟨_, h, _⟩
      · exact hz.own
      · exact h
    have HR := Lib.hid (im_gives (s' := sx != neg) HZ.out.1 hv hc.undrew ho (.tuple #[]) (.returned (.tuple #[])) rfl)
    clear hv hc ho hp d2 d3 hp'
    go_wp2
    go_end0
    exact HR.out

theorem under96 : Tryz.prog.underlying 96 = some (.pointer 84) := by kernel_rfl
theorem info84 : (Tryz.prog.info? 84).map (·.size) = some 2 := by kernel_rfl
theorem info84_any : ∃ i, Tryz.prog.info? 84 = some i ∧ i.size = 2 := by
  have h := info84
  cases h' : Tryz.prog.info? 84 with
  | none => rw [h'] at h; cases h
  | some i => rw [h'] at h; exact ⟨i, rfl, Option.some.inj h⟩
theorem neq_of_eql_at {t : TypeId} {a b : Addr} {r : Bool} {w : World} (h : (binOp .eql t (.pointer (some a)) (.pointer (some b))).run Tryz.prog w = .ok (.bool r) w) :
    (binOp .neq t (.pointer (some a)) (.pointer (some b))).run Tryz.prog w = .ok (.bool (!r)) w := by
  simp only [binOp] at h ⊢
  cases hq : (Op.equal t (.pointer (some a)) (.pointer (some b))).run Tryz.prog w with
  | ok c w' => simp [hq] at h ⊢; exact ⟨by rw [h.1], h.2⟩
  | halt c w' => simp [hq] at h
theorem eql96 {a b : Addr} {na nb oa ob : Nat} (w : World) (hne : a.block ≠ b.block) (ha : Wb w a.block oa na) (hb : Wb w b.block ob nb) :
    (binOp .eql 96 (.pointer (some a)) (.pointer (some b))).run Tryz.prog w = .ok (.bool false) w := by
  obtain ⟨i0, hi, hz⟩ := info84_any
  obtain ⟨ca, ta, h1, _⟩ := ha
  obtain ⟨cb, tb, h2, _⟩ := hb
  exact run_eql_ptr_other w under96 hi (by rw [hz]; omega) (fun h => hne (by rw [h])) h1 h2

set_option maxHeartbeats 4000000 in
set_option maxRecDepth 100000 in
theorem intSet (bz bx ox : Nat) (s sx : Bool) (vz vx : Value) (Z X : Nat) (w : World) (hz : Im w bz s vz Z) (hx : Ir w bx ox sx vx X) (hX : wlen X ≤ 10000)
    (hd : bx ≠ bz ∧ vz.ownBlock ≠ some bx ∧ Off (fun k => vz.ownBlock = some k) vx) :
    Calls Tryz.prog 132 #[.pointer (some ⟨bz, 0, none⟩), .pointer (some ⟨bx, ox, none⟩)] w (ImGives bz vz sx X (.pointer (some ⟨bz, 0, none⟩)) w) := by
  have c0 := hx.c0
  have c1 := hx.c1
  have d1 := hz.blk.c1
  have hset := set_any vz vx X w.drew hz.nv.st hx.nv (by omega) hd.2.2
  have hne := neq_of_eql_at (eql96 (a := ⟨bz, 0, none⟩) (b := ⟨bx, ox, none⟩) w (fun h => hd.1 h.symm) hz.ir.pl hx.pl)
  have HM := Lib.hid hset
  have HZ := Lib.hid (And.intro hz (And.intro hx (And.intro hd hX)))
  clear hz hx hd hX hset
  go_enter Tryz.func132, Tryz.ntmps132
  go_wp2
  go_region_with (go_at_call 83; refine HM.out.mono ?_; rintro e w2 ⟨v, rfl, hv, hc, ho⟩; obtain ⟨a, c, rfl⟩ := hv.shape; have hp := HZ.out.1.blk.keep hc.undrew (fun hk => HZ.out.1.own hk); have d2 := hp.c1; have d3 := hp.frozen 1)
  all_goals
    have hp' := (Pair.set1 hp (.slice a (wlen X) c))
    have f0 := hp'.c0
    have f1 := hp'.frozen 0
    have f2 : (w2.setCell ⟨bz, 1, none⟩ (.slice a (wlen X) c)).cell? ⟨bx, ox, none⟩ = some (.bool sx) := by
      obtain ⟨hz, hx, hd, hX⟩ := HZ.out
      rw [cell_set_ne _ _ _ _ _ _ (.inl hd.1)]
      exact hc.undrew.cell c0 hd.2.1
    have HR := Lib.hid (im_gives (s' := sx) HZ.out.1 hv hc.undrew (fun k hk => (ho k hk).imp id (fun h => Nat.le_of_eq h.symm)) (.pointer (some ⟨bz, 0, none⟩)) (.returned (.pointer (some ⟨bz, 0, none⟩))) rfl)
    clear hv hc ho hp d2 d3 hp'
    go_wp2
    go_ret
    exact HR.out

set_option maxHeartbeats 4000000 in
set_option maxRecDepth 100000 in
theorem intAbs (bz bx ox : Nat) (s sx : Bool) (vz vx : Value) (Z X : Nat) (w : World) (hz : Im w bz s vz Z) (hx : Ir w bx ox sx vx X) (hX : wlen X ≤ 10000)
    (hd : bx ≠ bz ∧ vz.ownBlock ≠ some bx ∧ Off (fun k => vz.ownBlock = some k) vx) :
    Calls Tryz.prog 124 #[.pointer (some ⟨bz, 0, none⟩), .pointer (some ⟨bx, ox, none⟩)] w (ImGives bz vz false X (.pointer (some ⟨bz, 0, none⟩)) w) := by
  have hset := intSet bz bx ox s sx vz vx Z X w hz hx hX hd
  go_enter Tryz.func124, Tryz.ntmps124
  go_wp2_with fail
  refine hset.mono ?_
  rintro e w2 ⟨rfl, v, hi, hc, ho⟩
  have f0 := hi.blk.c0
  have f1 := hi.blk.frozen 0
  have hr : ImGives bz vz false X (.pointer (some ⟨bz, 0, none⟩)) w (.returned (.pointer (some ⟨bz, 0, none⟩))) (w2.setCell ⟨bz, 0, none⟩ (.bool false)) := by
    refine ⟨rfl, v, ⟨hi.blk.set0 _, hi.nv.keep ((Chg.refl (fun k => k = bz) w2).setCell (a := ⟨bz, 0, none⟩) (fun _ => rfl) _) (fun k hk h => hi.own (h ▸ hk)), hi.own⟩, ?_, ho⟩
    exact hc.setCell (a := ⟨bz, 0, none⟩) (fun _ => .inl rfl) _
  have HR := Lib.hid hr
  clear hi hc ho hr
  go_wp2
  go_ret
  exact HR.out
end Go.Proofs.YtbnmgopobmiadaaGreatDoor
