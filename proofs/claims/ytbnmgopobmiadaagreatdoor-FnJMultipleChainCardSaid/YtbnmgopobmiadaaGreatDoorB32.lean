/- big.Rat: its memory; contract of norm. -/
import Derived.Test.YtbnmgopobmiadaaGreatDoorB30
import Derived.Deep.RegionHeld3
import Derived.Deep.Cut

set_option linter.unusedSimpArgs false
set_option linter.unusedVariables false

namespace Go.Proofs.YtbnmgopobmiadaaGreatDoor
open Go.RowKit

/-- a block of four cells -/
def Row4 (w : World) (b : Nat) (x y z t : Value) : Prop := ∃ e, w.heap[b]? = some (.cells #[x, y, z, t] e (0, 0))
section
variable {w w' : World} {b : Nat} {x y z t : Value}
theorem Row4.c0 (h : Row4 w b x y z t) : w.cell? ⟨b, 0, none⟩ = some x := by obtain ⟨e, h⟩ := h; simp [World.cell?, h]
theorem Row4.c1 (h : Row4 w b x y z t) : w.cell? ⟨b, 1, none⟩ = some y := by obtain ⟨e, h⟩ := h; simp [World.cell?, h]
theorem Row4.c2 (h : Row4 w b x y z t) : w.cell? ⟨b, 2, none⟩ = some z := by obtain ⟨e, h⟩ := h; simp [World.cell?, h]
theorem Row4.c3 (h : Row4 w b x y z t) : w.cell? ⟨b, 3, none⟩ = some t := by obtain ⟨e, h⟩ := h; simp [World.cell?, h]
theorem Row4.frozen (h : Row4 w b x y z t) (j : Nat) : w.frozen? ⟨b, j, none⟩ = false := by obtain ⟨e, h⟩ := h; simp [World.frozen?, h]
theorem Row4.lt (h : Row4 w b x y z t) : b < w.heap.size := by obtain ⟨e, h⟩ := h; exact (Array.getElem?_eq_some_iff.1 h).1
theorem Row4.keep {S : Nat → Prop} (h : Row4 w b x y z t) (hc : Chg S w w') (hs : ¬ S b) : Row4 w' b x y z t := by
  have hl := h.lt
  obtain ⟨e, h⟩ := h
  exact ⟨e, (hc.keep b hl hs).trans h⟩
theorem Row4.set0 (h : Row4 w b x y z t) (v : Value) : Row4 (w.setCell ⟨b, 0, none⟩ v) b v y z t := by obtain ⟨e, h⟩ := h; exact ⟨e, (setCell_block _ _ _ _ h).trans (by simp)⟩
theorem Row4.set1 (h : Row4 w b x y z t) (v : Value) : Row4 (w.setCell ⟨b, 1, none⟩ v) b x v z t := by obtain ⟨e, h⟩ := h; exact ⟨e, (setCell_block _ _ _ _ h).trans (by simp)⟩
theorem Row4.set2 (h : Row4 w b x y z t) (v : Value) : Row4 (w.setCell ⟨b, 2, none⟩ v) b x y v t := by obtain ⟨e, h⟩ := h; exact ⟨e, (setCell_block _ _ _ _ h).trans (by simp)⟩
theorem Row4.set3 (h : Row4 w b x y z t) (v : Value) : Row4 (w.setCell ⟨b, 3, none⟩ v) b x y z v := by obtain ⟨e, h⟩ := h; exact ⟨e, (setCell_block _ _ _ _ h).trans (by simp)⟩
theorem Row4.wb (h : Row4 w b x y z t) : Wb w b 0 4 := by obtain ⟨e, h⟩ := h; exact ⟨_, e, h, by simp⟩
end

/-- block b is a Rat -/
structure Rm (w : World) (b : Nat) (sa : Bool) (va : Value) (X : Nat) (sb : Bool) (vb : Value) (Y : Nat) : Prop where
  blk : Row4 w b (.bool sa) va (.bool sb) vb
  na : Nv w va X
  nb : Nv w vb Y
  oa : va.ownBlock ≠ some b
  ob : vb.ownBlock ≠ some b
  ab : ∀ k, va.ownBlock = some k → vb.ownBlock ≠ some k
/-- what belongs to a Rat -/
def RegR (b : Nat) (va vb : Value) (k : Nat) : Prop := k = b ∨ va.ownBlock = some k ∨ vb.ownBlock = some k
theorem Rm.ira {w : World} {b : Nat} {sa sb : Bool} {va vb : Value} {X Y : Nat} (h : Rm w b sa va X sb vb Y) : Ir w b 0 sa va X := ⟨h.blk.c0, h.blk.c1, h.na, h.blk.wb.mono (by omega)⟩
theorem Rm.irb {w : World} {b : Nat} {sa sb : Bool} {va vb : Value} {X Y : Nat} (h : Rm w b sa va X sb vb Y) : Ir w b 2 sb vb Y := ⟨h.blk.c2, h.blk.c3, h.nb, h.blk.wb.mono (by omega)⟩
theorem Rm.keep {S : Nat → Prop} {w w' : World} {b : Nat} {sa sb : Bool} {va vb : Value} {X Y : Nat} (h : Rm w b sa va X sb vb Y) (hc : Chg S w w') (hs : ∀ k, RegR b va vb k → ¬ S k) : Rm w' b sa va X sb vb Y :=
  ⟨h.blk.keep hc (hs b (.inl rfl)), h.na.keep hc (fun k hk => hs k (.inr (.inl hk))), h.nb.keep hc (fun k hk => hs k (.inr (.inr hk))), h.oa, h.ob, h.ab⟩
theorem Rm.lt {w : World} {b : Nat} {sa sb : Bool} {va vb : Value} {X Y : Nat} (h : Rm w b sa va X sb vb Y) : ∀ k, RegR b va vb k → k < w.heap.size := by
  rintro k (rfl | hk | hk)
  · exact h.blk.lt
  · exact h.na.lt k hk
  · exact h.nb.lt k hk
theorem Rm.signs {w : World} {b : Nat} {sa sb : Bool} {va vb : Value} {X Y : Nat} (h : Rm w b sa va X sb vb Y) (s s' : Bool) :
    Rm ((w.setCell ⟨b, 0, none⟩ (.bool s)).setCell ⟨b, 2, none⟩ (.bool s')) b s va X s' vb Y := by
  have hc : Chg (fun k => k = b) w ((w.setCell ⟨b, 0, none⟩ (.bool s)).setCell ⟨b, 2, none⟩ (.bool s')) := ((Chg.refl (fun k => k = b) w).setCell (a := ⟨b, 0, none⟩) (fun _ => rfl) _).setCell (a := ⟨b, 2, none⟩) (fun _ => rfl) _
  exact ⟨(h.blk.set0 _).set2 _, h.na.keep hc (fun k hk e => h.oa (e ▸ hk)), h.nb.keep hc (fun k hk e => h.ob (e ▸ hk)), h.oa, h.ob, h.ab⟩
theorem Rm.sign {w : World} {b : Nat} {sa sb : Bool} {va vb : Value} {X Y : Nat} (h : Rm w b sa va X sb vb Y) (s : Bool) : Rm (w.setCell ⟨b, 0, none⟩ (.bool s)) b s va X sb vb Y := by
  have hc : Chg (fun k => k = b) w (w.setCell ⟨b, 0, none⟩ (.bool s)) := (Chg.refl (fun k => k = b) w).setCell (a := ⟨b, 0, none⟩) (fun _ => rfl) _
  exact ⟨h.blk.set0 _, h.na.keep hc (fun k hk e => h.oa (e ▸ hk)), h.nb.keep hc (fun k hk e => h.ob (e ▸ hk)), h.oa, h.ob, h.ab⟩

/-- what norm leaves -/
def Normed (b : Nat) (va vb : Value) (s : Bool) (X Y : Nat) (w : World) (e : Ending) (w' : World) : Prop :=
  e = .returned (.pointer (some ⟨b, 0, none⟩)) ∧ ∃ va' vb', Rm w' b s va' X false vb' Y ∧ Chg (RegR b va vb) w w' ∧ (∀ k, va'.ownBlock = some k → va.ownBlock = some k ∨ w.heap.size ≤ k) ∧ (∀ k, vb'.ownBlock = some k → vb.ownBlock = some k ∨ w.heap.size ≤ k)

theorem norm_end {b : Nat} {va vb va' vb' : Value} {s0 sa : Bool} {X' Y' : Nat} {S' : Nat → Prop} {w w7 w9 : World} {e : Ending} (hm : Rm w7 b s0 va' X' false vb' Y') (hc : Chg (RegR b va vb) w w7)
    (ho1 : ∀ k, va'.ownBlock = some k → va.ownBlock = some k ∨ w.heap.size ≤ k) (ho2 : ∀ k, vb'.ownBlock = some k → vb.ownBlock = some k ∨ w.heap.size ≤ k) (hS : ∀ k, S' k → w.heap.size ≤ k) (hoff : ∀ k, RegR b va' vb' k → ¬ S' k)
    (hQ : Quiet S' (w7.setCell ⟨b, 0, none⟩ (.bool sa)) e w9) : Normed b va vb sa X' Y' w (.returned (.pointer (some ⟨b, 0, none⟩))) w9 := by
  have h1 := hm.sign sa
  have hc2 : Chg (RegR b va vb) w (w7.setCell ⟨b, 0, none⟩ (.bool sa)) := hc.setCell (a := ⟨b, 0, none⟩) (fun _ => .inl rfl) _
  refine ⟨rfl, va', vb', ⟨h1.blk.keep hQ.2.1 (hoff b (.inl rfl)), h1.na.quiet hQ, h1.nb.quiet hQ, h1.oa, h1.ob, h1.ab⟩, hc2.trans hQ.2.1 (fun k h => h) (fun k hk h => ?_), ho1, ho2⟩
  have := hS k h; omega

/-- behind one of norm's two divisions: the quotient is stored in cell o -/
def NMid (b o sk : Nat) (va vf : Value) (S : Nat → Prop) (X g : Nat) (w6 wc : World) : Prop :=
  ∃ v v2 w' S', Div2S va (.slice none 0 0) S S' (X / g) (X % g) w6 (.returned (.tuple #[v, v2])) w' ∧ Stk w' sk 0 S' ∧ (∀ k, S' k → (S k ∨ w6.heap.size ≤ k) ∧ k < w'.heap.size) ∧ wc = w'.setCell ⟨b, o, none⟩ v

theorem norm_half1 {b bf sk : Nat} {va vb vf : Value} {X Y g : Nat} {S : Nat → Prop} {w6 wc : World} (hm : Rm w6 b false va X false vb Y) (hf : Im w6 bf false vf g) (hd : ∀ k, Reg bf vf k → ¬ RegR b va vb k) (hSr : ∀ k, RegR b va vb k → ¬ S k) (hSf : ∀ k, Reg bf vf k → ¬ S k)
    (h : NMid b 1 sk va vf S X g w6 wc) :
    ∃ v S', Rm wc b false v (X / g) false vb Y ∧ Im wc bf false vf g ∧ Stk wc sk 0 S' ∧ (∀ k, S' k → (S k ∨ w6.heap.size ≤ k) ∧ k < wc.heap.size) ∧ Chg (fun k => RegR b va vb k ∨ S k) w6 wc ∧ (∀ k, v.ownBlock = some k → va.ownBlock = some k ∨ w6.heap.size ≤ k) ∧
      (∀ k, v.ownBlock = some k → ¬ S' k) := by
  obtain ⟨v, v2, w', S', ⟨v0, v20, he, ⟨h1, h2, h3, h4, h5, h6⟩, h7, h8⟩, h9, h10, rfl⟩ := h
  cases he
  have hn : ∀ k, (Value.slice none 0 0).ownBlock = some k → False := fun k h => by simp [Value.ownBlock] at h
  have hb := hm.blk.lt
  have hsz := h3.size
  have hset : Chg (fun k => k = b) w' (w'.setCell ⟨b, 1, none⟩ v) := (Chg.refl (fun k => k = b) w').setCell (a := ⟨b, 1, none⟩) (fun _ => rfl) v
  have hvb : v.ownBlock ≠ some b := fun h => by
    rcases h4 b h with h | h
    · exact hm.oa h
    · omega
  have hSb : ¬ S' b := fun h => by
    rcases (h10 b h).1 with h | h
    · exact hSr b (.inl rfl) h
    · omega
  have kb : Row4 w' b (.bool false) va (.bool false) vb := hm.blk.keep h3 (fun h => by
    rcases h with h | h | h
    · exact hm.oa h
    · exact hn _ h
    · exact hSr b (.inl rfl) h)
  have knb : Nv w' vb Y := hm.nb.keep h3 (fun k hk h => by
    rcases h with h | h | h
    · exact hm.ab k h hk
    · exact hn _ h
    · exact hSr k (.inr (.inr hk)) h)
  have kf : Im w' bf false vf g := hf.keep h3 (fun k hk h => by
    rcases h with h | h | h
    · exact hd k hk (.inr (.inl h))
    · exact hn _ h
    · exact hSf k hk h)
  refine ⟨v, S', ⟨kb.set1 v, h1.keep hset (fun k hk e => hvb (e ▸ hk)), knb.keep hset (fun k hk e => hm.ob (e ▸ hk)), hvb, hm.ob, fun k hk hk2 => ?_⟩, kf.keep hset (fun k hk e => hd k hk (.inl e)), h9.keep hset (fun k hk e => hSb (e ▸ hk)),
    fun k hk => ⟨(h10 k hk).1, by rw [setCell_size]; exact (h10 k hk).2⟩, (h3.mono (fun k _ h => ?_)).setCell (a := ⟨b, 1, none⟩) (fun _ => .inl (.inl rfl)) v, h4, h7⟩
  · rcases h4 k hk with h | h
    · exact hm.ab k h hk2
    · have := hm.nb.lt k hk2; omega
  · rcases h with h | h | h
    · exact .inl (.inr (.inl h))
    · exact (hn _ h).elim
    · exact .inr h
theorem norm_half2 {b bf sk : Nat} {va vb vf : Value} {X Y g : Nat} {S : Nat → Prop} {w6 wc : World} (hm : Rm w6 b false va X false vb Y) (hf : Im w6 bf false vf g) (hd : ∀ k, Reg bf vf k → ¬ RegR b va vb k) (hSr : ∀ k, RegR b va vb k → ¬ S k) (hSf : ∀ k, Reg bf vf k → ¬ S k)
    (h : NMid b 3 sk vb vf S Y g w6 wc) :
    ∃ v S', Rm wc b false va X false v (Y / g) ∧ Stk wc sk 0 S' ∧ (∀ k, S' k → (S k ∨ w6.heap.size ≤ k) ∧ k < wc.heap.size) ∧ Chg (fun k => RegR b va vb k ∨ S k) w6 wc ∧ (∀ k, v.ownBlock = some k → vb.ownBlock = some k ∨ w6.heap.size ≤ k) ∧
      (∀ k, v.ownBlock = some k → ¬ S' k) := by
  obtain ⟨v, v2, w', S', ⟨v0, v20, he, ⟨h1, h2, h3, h4, h5, h6⟩, h7, h8⟩, h9, h10, rfl⟩ := h
  cases he
  have hn : ∀ k, (Value.slice none 0 0).ownBlock = some k → False := fun k h => by simp [Value.ownBlock] at h
  have hb := hm.blk.lt
  have hsz := h3.size
  have hset : Chg (fun k => k = b) w' (w'.setCell ⟨b, 3, none⟩ v) := (Chg.refl (fun k => k = b) w').setCell (a := ⟨b, 3, none⟩) (fun _ => rfl) v
  have hvb : v.ownBlock ≠ some b := fun h => by
    rcases h4 b h with h | h
    · exact hm.ob h
    · omega
  have hSb : ¬ S' b := fun h => by
    rcases (h10 b h).1 with h | h
    · exact hSr b (.inl rfl) h
    · omega
  have kb : Row4 w' b (.bool false) va (.bool false) vb := hm.blk.keep h3 (fun h => by
    rcases h with h | h | h
    · exact hm.ob h
    · exact hn _ h
    · exact hSr b (.inl rfl) h)
  have kna : Nv w' va X := hm.na.keep h3 (fun k hk h => by
    rcases h with h | h | h
    · exact hm.ab k hk h
    · exact hn _ h
    · exact hSr k (.inr (.inl hk)) h)
  refine ⟨v, S', ⟨kb.set3 v, kna.keep hset (fun k hk e => hm.oa (e ▸ hk)), h1.keep hset (fun k hk e => hvb (e ▸ hk)), hm.oa, hvb, fun k hk hk2 => ?_⟩, h9.keep hset (fun k hk e => hSb (e ▸ hk)),
    fun k hk => ⟨(h10 k hk).1, by rw [setCell_size]; exact (h10 k hk).2⟩, (h3.mono (fun k _ h => ?_)).setCell (a := ⟨b, 3, none⟩) (fun _ => .inl (.inl rfl)) v, h4, h7⟩
  · rcases h4 k hk2 with h | h
    · exact hm.ab k hk h
    · have := hm.na.lt k hk; omega
  · rcases h with h | h | h
    · exact .inl (.inr (.inr h))
    · exact (hn _ h).elim
    · exact .inr h

set_option maxHeartbeats 16000000 in
set_option maxRecDepth 100000 in
theorem ratNorm (b : Nat) (sa sb : Bool) (va vb : Value) (X Y : Nat) (w : World) (h : Rm w b sa va X sb vb Y) (hX0 : X ≠ 0) (hY0 : Y ≠ 0) (hX : wlen X < 40) (hY : wlen Y < 40) (hG : w.cell? ⟨7, 0, none⟩ = some (.int .i64 40)) (h7 : ¬ RegR b va vb 7) :
    Calls Tryz.prog 39 #[.pointer (some ⟨b, 0, none⟩)] w (Normed b va vb sa (X / Nat.gcd X Y) (Y / Nat.gcd X Y) w) := by
  obtain ⟨xb, xc, rfl, x1, x2, x3, x4⟩ := h.na.pos hX0
  obtain ⟨yb, yc, rfl, y1, y2, y3, y4⟩ := h.nb.pos hY0
  clear x1 x2 x3 x4 y1 y2 y3 y4
  have c1 := h.blk.c1
  have c3 := h.blk.c3
  have hxp : ((wlen X : Int) == 0) = false := beq_eq_false_iff_ne.2 (by have := mt wlen_eq_zero.1 hX0; omega)
  have hyp : ((wlen Y : Int) == 0) = false := beq_eq_false_iff_ne.2 (by have := mt wlen_eq_zero.1 hY0; omega)
  have hgs := getStack w
  have HZ := Lib.hid (And.intro h (And.intro hX0 (And.intro hY0 (And.intro hX (And.intro hY (And.intro hG h7))))))
  clear h hX0 hY0 hX hY hG h7
  go_enter_defers Tryz.func39, Tryz.ntmps39
  go_wp2_with fail
  refine hgs.mono ?_
  rintro e w1 ⟨rfl, hS, hc, hsz⟩
  obtain ⟨sk, hsk⟩ : ∃ s, s = w.heap.size := ⟨_, rfl⟩
  rw [← hsk] at hS ⊢
  obtain ⟨h, hX0, hY0, hX, hY, hG, h7⟩ := HZ.out
  have h1 := h.keep hc (fun _ _ h => h)
  have d0 := h1.blk.c0
  have e0 := h1.blk.frozen 0
  have h2 := h1.sign false
  have d2 := h2.blk.c2
  have e2 := h2.blk.frozen 2
  have h3 := h1.signs false false
  obtain ⟨w2, hw2⟩ : ∃ w2, w2 = (w1.setCell ⟨b, 0, none⟩ (.bool false)).setCell ⟨b, 2, none⟩ (.bool false) := ⟨_, rfl⟩
  rw [← hw2] at h3
  have hc2 : Chg (fun k => k = b) w1 w2 := by rw [hw2]; exact ((Chg.refl (fun k => k = b) w1).setCell (a := ⟨b, 0, none⟩) (fun _ => rfl) _).setCell (a := ⟨b, 2, none⟩) (fun _ => rfl) _
  have hs21 : w2.heap.size = w1.heap.size := by rw [hw2, setCell_size, setCell_size]
  have H1 := Lib.hid (And.intro h3 (And.intro hS (And.intro hc (And.intro hsz (And.intro hsk (And.intro hc2 hs21))))))
  clear h h1 h2 h3 hS hc hsz hX0 hY0 hX hY hG h7 hgs hc2 hsk hs21
  go_wp2
  rw [← hw2]
  clear hw2 d0 e0 d2 e2 c1 c3
  obtain ⟨h3, hS, hc, hsz, hsk, hc2, hs21⟩ := H1.out
  obtain ⟨h, hX0, hY0, hX, hY, hG, h7⟩ := HZ.out
  have hG2 : w2.cell? ⟨7, 0, none⟩ = some (.int .i64 40) := hc2.cell (hc.cell hG (fun h => h)) (fun e => h7 (.inl e))
  have kc : Chg (fun _ => False) w2 (w2.drew.alloc (.cells #[.bool false, .slice none 0 0] 84)) := ((Chg.refl _ w2).drew).alloc _
  have HN := Lib.hid (newInt0 w2.drew)
  have HL := Lib.hid (lehmerGCD w2.drew.heap.size b 0 b 2 (.slice none 0 0) _ _ false false 0 X Y (w2.drew.alloc (.cells #[.bool false, .slice none 0 0] 84)) (Im.new w2.drew) (h3.ira.keepF kc) (h3.irb.keepF kc) hX0 hY0 hX hY (kc.cell hG2 (fun h => h)))
  have HG := Lib.hid (And.intro hG2 kc)
  clear h3 hS hc hsz hsk hc2 hs21 h hX0 hY0 hX hY hG h7 hG2 kc
  refine wp_region_noPanic ?_
  go_region_with (first | (go_at_call 75; refine HN.out.mono ?_; rintro e w3 ⟨rfl, rfl⟩) | (go_at_call 76; refine HL.out.mono ?_; rintro e w4 ⟨rfl, vf, f1, f2, f3⟩))
  all_goals
    refine NoPanic.normal ?_
    obtain ⟨h3, hS, hc, hsz, hsk, hc2, hs21⟩ := H1.out
    obtain ⟨h, hX0, hY0, hX, hY, hG, h7⟩ := HZ.out
    have hbl := h.blk.lt
    have hs2 : w2.heap.size = w.heap.size + 1 := by omega
    obtain ⟨bf, hbf⟩ : ∃ bf, bf = w2.drew.heap.size := ⟨_, rfl⟩
    have hbf' : bf = w.heap.size + 1 := by rw [hbf]; exact hs2
    have c4 : Chg (fun _ => False) w2 w4 := HG.out.2.trans f2 (fun _ h => h) (fun k hk hr => by
      rcases hr with hr | hr
      · have : w2.drew.heap.size = w2.heap.size := rfl
        omega
      · simp [Value.ownBlock] at hr)
    have f3' : ∀ k, vf.ownBlock = some k → bf < k := fun k hk => by
      rcases f3 k hk with h1 | h1
      · simp [Value.ownBlock] at h1
      · rw [alloc_size] at h1; omega
    have hbf2 : w2.heap.size = bf := hbf.symm
    rw [← hbf] at f1
    rw [hbf2]
    clear f2 f3 hbf hbf2
    have hone := intOne w4
    have H4 := Lib.hid (And.intro f1 (And.intro c4 (And.intro f3' (And.intro hbf' hs2))))
    clear hbf' hs2 f1 c4 f3' h3 hS hc hsz hsk hc2 h hX0 hY0 hX hY hG h7 hbl hs21
    go_wp2_with fail
    refine hone.mono ?_
    rintro e w5 ⟨b1, v1, rfl, o1, o2, o3⟩
    obtain ⟨f1, c4, f3', hbf', hs2⟩ := H4.out
    have hgl : wlen (Nat.gcd X Y) < 40 := by
      have h1 := wlen_mono (Nat.gcd_le_left Y (Nat.pos_of_ne_zero HZ.out.2.1))
      have := HZ.out.2.2.2.1; omega
    have hcmp := intCmp bf b1 vf v1 (Nat.gcd X Y) 1 w5 (f1.keep o2 (fun _ _ h => h)) o1 (by omega) (by rw [wlen_one (by omega) one_lt_B]; omega) (by have := f1.blk.lt; omega)
    have H5 := Lib.hid (And.intro o2 hgl)
    clear o1 o2 o3 f1 c4 f3' hs2 hbf' hone hgl
    go_wp2_with fail
    refine hcmp.mono ?_
    rintro e w6 ⟨rfl, nd, rfl⟩
    clear hcmp
    have c6 : Chg (fun _ => False) w2 (w5.drewN nd) := (H4.out.2.1.trans H5.out.1 (fun _ h => h) (fun _ _ h => h)).drewN nd
    obtain ⟨w6, hw6⟩ : ∃ w6, w6 = w5.drewN nd := ⟨_, rfl⟩
    have i6 : Im w6 bf false vf (Nat.gcd X Y) := by
      have h := H4.out.1.keep (H5.out.1.drewN nd) (fun _ _ h => h)
      rw [hw6]; exact h
    rw [← hw6] at c6 ⊢
    have m6 := H1.out.1.keep c6 (fun _ _ h => h)
    have s6 : Stk w6 sk 0 (fun k => k = sk) := (H1.out.2.1.keep H1.out.2.2.2.2.2.1 (fun k hk e => by have := HZ.out.1.blk.lt; have := H1.out.2.2.2.2.1; omega)).keep c6 (fun _ _ h => h)
    have H6 := Lib.hid (And.intro c6 (And.intro i6 (And.intro m6 s6)))
    clear c6 i6 m6 s6 hw6
    by_cases hg1 : Nat.gcd X Y = 1
    · have hcv : cmpN (Nat.gcd X Y) 1 = 0 := by rw [hg1]; rfl
      have e0 : (cmpN (Nat.gcd X Y) 1 != 0) = false := by rw [hcv]; rfl
      have z0 := H6.out.2.2.1.blk.c0
      have z1 := H6.out.2.2.1.blk.frozen 0
      go_wp2
      obtain ⟨h3, hS, hc, hsz, hsk, hc2, hs21⟩ := H1.out
      obtain ⟨c6, i6, m6, s6⟩ := H6.out
      have hc9 : Chg (RegR b (.slice (some ⟨xb, 0, none⟩) (wlen X) xc) (.slice (some ⟨yb, 0, none⟩) (wlen Y) yc)) w w6 :=
        ((hc.trans hc2 (fun _ h => h.elim) (fun k _ h => .inl h)).trans c6 (fun _ h => h) (fun _ _ h => h.elim))
      have hlt := HZ.out.1.lt
      refine leaves_cons (f := 43) (args := #[.pointer (some ⟨sk, 0, none⟩)]) (by simp) (by simp [go_sem]) ?_
      refine (stack_free_d _ (w6.setCell ⟨b, 0, none⟩ (.bool sa)) sk 0 (fun k => k = sk) (s6.keep ((Chg.refl (fun k => k = b) w6).setCell (a := ⟨b, 0, none⟩) (fun _ => rfl) _) (fun k hk e => by have := hlt b (.inl rfl); omega))).mono ?_
      rintro e u' w9 ⟨rfl, hQ⟩
      have hfin := norm_end m6 hc9 (fun k hk => .inl hk) (fun k hk => .inl hk) (fun k hk => by omega) (fun k hk e => by have := hlt k hk; omega) hQ
      rw [hg1, Nat.div_one, Nat.div_one]
      obtain rfl := hQ.1
      refine ⟨_, results_tmp rfl _ _ _, ?_⟩
      exact hfin
    · have hcv : cmpN (Nat.gcd X Y) 1 ≠ 0 := by unfold cmpN; split; omega; split; omega; omega
      have e0 : (cmpN (Nat.gcd X Y) 1 != 0) = true := bne_iff_ne.2 hcv
      generalize cmpN (Nat.gcd X Y) 1 = cc at *
      obtain ⟨va, hva⟩ : ∃ v, v = Value.slice (some ⟨xb, 0, none⟩) (wlen X) xc := ⟨_, rfl⟩
      obtain ⟨vb, hvb⟩ : ∃ v, v = Value.slice (some ⟨yb, 0, none⟩) (wlen Y) yc := ⟨_, rfl⟩
      rw [← hva, ← hvb] at HZ H6 H1
      obtain ⟨h3, hS, hc, hsz, hsk, hc2, hs21⟩ := H1.out
      obtain ⟨c6, i6, m6, s6⟩ := H6.out
      obtain ⟨h, hX0, hY0, hX, hY, hG, h7⟩ := HZ.out
      have hlt := h.lt
      have h7l := seven_lt hG
      have hbf' := H4.out.2.2.2.1
      have hgl := H5.out.2
      have hn : ∀ k, (Value.slice none 0 0).ownBlock = some k → False := fun k h => by simp [Value.ownBlock] at h
      have hgX := Nat.gcd_le_left Y (Nat.pos_of_ne_zero hX0)
      have hgY := Nat.gcd_le_right X (Nat.pos_of_ne_zero hY0)
      have hg0 : Nat.gcd X Y ≠ 0 := fun e => hX0 (Nat.eq_zero_of_gcd_eq_zero_left e)
      have hG6 : w6.cell? ⟨7, 0, none⟩ = some (.int .i64 40) := c6.cell (hc2.cell (hc.cell hG (fun h => h)) (fun e => h7 (.inl e))) (fun h => h)
      have hfo : ∀ k, Reg bf vf k → w.heap.size < k := fun k hk => by
        rcases hk with rfl | hk
        · omega
        · have := H4.out.2.2.1 k hk; omega
      have hd1 := div_any_stk va (.slice none 0 0) va vf sk 0 X (Nat.gcd X Y) (fun k => k = sk) w6.drew m6.na.st (.inl rfl) m6.na i6.nv hg0 hgX (by omega) hgl s6 (fun k hk => by have := s6.inside.1; rw [hk]; exact this.2) (by omega) hG6 (fun e => by omega)
        (fun e => hn _ e) (fun k hk e => by have := hlt k (.inr (.inl hk)); omega) (fun k hk => (hn k hk).elim) (fun k hk e => by have := hlt k (.inr (.inl hk)); omega) (fun k hk e => by have := hfo k (.inr hk); omega) (fun k hk _ => hn k hk) (fun e => absurd e hg1) (fun k _ e => hn k e) (fun k _ e => hn k e)
      have hrow : ∀ w', Chg (fun k => va.ownBlock = some k ∨ (Value.slice none 0 0).ownBlock = some k ∨ k = sk) w6.drew w' → Row4 w' b (.bool false) va (.bool false) vb := fun w' hc' =>
        Row4.keep (w := w6.drew) m6.blk hc' (fun e => by
          rcases e with e | e | e
          · exact m6.oa e
          · exact hn _ e
          · have := hlt b (.inl rfl); omega)
      have z1 := m6.blk.c1
      have z2 := i6.blk.c1
      obtain ⟨fa, fc, hfs⟩ := i6.nv.shape
      have HD1 := Lib.hid (And.intro hd1 hrow)
      have H7 := Lib.hid (And.intro hlt (And.intro h7l (And.intro hbf' (And.intro hgl (And.intro hgX (And.intro hgY (And.intro hg0 (And.intro hG6 (And.intro hfo hn)))))))))
      clear hd1 hrow h3 hS hc hsz hsk hc2 hs21 c6 i6 m6 s6 h hX0 hY0 hX hY hG h7 hlt h7l hbf' hgl hgX hgY hg0 hG6 hfo hn hfs
      rw [← hva, ← hvb]
      have HVV := Lib.hid (And.intro hva hvb)
      clear hva hvb hcv hxp hyp
      go_wp2
      go_cut [] from 6 (fun wc => NMid b 1 sk va vf (fun k => k = sk) X (Nat.gcd X Y) w6.drew wc)
      case first =>
        refine wp_region_noPanic ?_
        go_region_with (go_at_call 79; refine HD1.out.1.mono ?_; rintro e w' ⟨S', ⟨v, v2, rfl, hrest, hv1, hv2⟩, hst, hss⟩; have hr4 := HD1.out.2 w' hrest.2.2.1; have HR := Lib.hid (And.intro hrest (And.intro hv1 (And.intro hv2 (And.intro hst hss)))); obtain ⟨q1, q2, rfl⟩ := hrest.1.shape; obtain ⟨q3, q4, rfl⟩ := hrest.2.1.shape; clear hrest hv1 hv2 hst hss; have y1 := hr4.c1; have y2 := hr4.frozen 1)
        all_goals
          refine NoPanic.normal ?_
          go_wp2
          go_meet
          case rel =>
            obtain ⟨hrest, hv1, hv2, hst, hss⟩ := HR.out
            exact ⟨_, _, w', S', ⟨_, _, rfl, hrest, hv1, hv2⟩, hst, hss, rfl⟩
      case rest =>
        obtain ⟨wA, hwA⟩ : ∃ x, x = wc := ⟨_, rfl⟩
        subst hwA
        obtain ⟨h3, hS, hc, hsz, hsk, hc2, hs21⟩ := H1.out
        obtain ⟨c6, i6, m6, s6⟩ := H6.out
        obtain ⟨hlt, h7l, hbf', hgl, hgX, hgY, hg0, hG6, hfo, hn⟩ := H7.out
        obtain ⟨h, hX0, hY0, hX, hY, hG, h7⟩ := HZ.out
        have hsk6 : sk < w6.heap.size := s6.inside.1.2
        have kd : Chg (fun _ => False) w6 w6.drew := (Chg.refl (fun _ => False) w6).drew
        obtain ⟨v, S1, m7, i7, s7, ss7, c7, o7, vS7⟩ := norm_half1 (w6 := w6.drew) (m6.keep kd (fun _ _ h => h)) (i6.keep kd (fun _ _ h => h)) (fun k h1 h2 => by have := hfo k h1; have := hlt k h2; omega) (fun k h1 h2 => by have := hlt k h1; omega) (fun k h1 h2 => by have := hfo k h1; omega) hcut
        have c7' : Chg (fun k => RegR b va vb k ∨ k = sk) w6 wA := c7.undrew
        have ss7' : ∀ k, S1 k → (k = sk ∨ w6.heap.size ≤ k) ∧ k < wA.heap.size := ss7
        have o7' : ∀ k, v.ownBlock = some k → va.ownBlock = some k ∨ w6.heap.size ≤ k := o7
        have hG7 : wA.cell? ⟨7, 0, none⟩ = some (.int .i64 40) := c7'.cell hG6 (fun e => by
          rcases e with e | e
          · exact h7 e
          · dsimp only at e; omega)
        have hd2 := div_any_stk vb (.slice none 0 0) vb vf sk 0 Y (Nat.gcd X Y) S1 wA.drew m7.nb.st (.inl rfl) m7.nb i7.nv hg0 hgY (by omega) hgl s7 (fun k hk => (ss7' k hk).2) (by omega) hG7 (fun e => by have := (ss7' 7 e).1; omega)
          (fun e => hn _ e) (fun k hk e => by have := hlt k (.inr (.inr hk)); have := (ss7' k e).1; omega) (fun k hk => (hn k hk).elim) (fun k hk e => by have := hlt k (.inr (.inr hk)); have := (ss7' k e).1; omega)
          (fun k hk e => by have := hfo k (.inr hk); have := (ss7' k e).1; have := i6.nv.lt k hk; omega) (fun k hk _ => hn k hk) (fun e => absurd e hg1) (fun k _ e => hn k e) (fun k _ e => hn k e)
        have hrow : ∀ w', Chg (fun k => vb.ownBlock = some k ∨ (Value.slice none 0 0).ownBlock = some k ∨ S1 k) wA.drew w' → Row4 w' b (.bool false) v (.bool false) vb := fun w' hc' =>
          Row4.keep (w := wA.drew) m7.blk hc' (fun e => by
            rcases e with e | e | e
            · exact m7.ob e
            · exact hn _ e
            · have := hlt b (.inl rfl); have := (ss7' b e).1; omega)
        have z3 := m7.blk.c3
        have z2 := i7.blk.c1
        obtain ⟨fa, fc, hfs⟩ := i7.nv.shape
        have HD2 := Lib.hid (And.intro hd2 hrow)
        have H8 := Lib.hid (And.intro m7 (And.intro i7 (And.intro s7 (And.intro ss7' (And.intro c7' (And.intro o7' (And.intro vS7 hsk6)))))))
        clear hd2 hrow h3 hS hc hsz hsk hc2 hs21 c6 i6 m6 s6 h hX0 hY0 hX hY hG h7 hlt h7l hbf' hgl hgX hgY hg0 hG6 hfo hn hfs m7 i7 s7 ss7 c7 o7 vS7 c7' ss7' o7' hG7 hsk6 kd z1 hcut
        go_wp2
        go_cut [] from 6 (fun wd => NMid b 3 sk vb vf S1 Y (Nat.gcd X Y) wA.drew wd)
        case first =>
          refine wp_region_noPanic ?_
          go_region_with (go_at_call 79; refine HD2.out.1.mono ?_; rintro e w' ⟨S', ⟨v', v2, rfl, hrest, hv1, hv2⟩, hst, hss⟩; have hr4 := HD2.out.2 w' hrest.2.2.1; have HR := Lib.hid (And.intro hrest (And.intro hv1 (And.intro hv2 (And.intro hst hss)))); obtain ⟨q1, q2, rfl⟩ := hrest.1.shape; obtain ⟨q3, q4, rfl⟩ := hrest.2.1.shape; clear hrest hv1 hv2 hst hss; have y1 := hr4.c3; have y2 := hr4.frozen 3)
          all_goals
            refine NoPanic.normal ?_
            go_wp2
            go_meet
            case rel =>
              obtain ⟨hrest, hv1, hv2, hst, hss⟩ := HR.out
              exact ⟨_, _, w', S', ⟨_, _, rfl, hrest, hv1, hv2⟩, hst, hss, rfl⟩
        case rest =>
          obtain ⟨h3, hS, hc, hsz, hsk, hc2, hs21⟩ := H1.out
          obtain ⟨c6, i6, m6, s6⟩ := H6.out
          obtain ⟨hlt, h7l, hbf', hgl, hgX, hgY, hg0, hG6, hfo, hn⟩ := H7.out
          obtain ⟨m7, i7, s7, ss7, c7, o7, vS7, hsk6⟩ := H8.out
          have kd : Chg (fun _ => False) wA wA.drew := (Chg.refl (fun _ => False) wA).drew
          have hRf : ∀ k, RegR b v vb k → ¬ S1 k := fun k h1 h2 => by
            rcases h1 with h1 | h1 | h1
            · have := hlt k (.inl h1); have := (ss7 k h2).1; omega
            · exact vS7 k h1 h2
            · have := hlt k (.inr (.inr h1)); have := (ss7 k h2).1; omega
          have hRb : ∀ k, RegR b v vb k → RegR b va vb k ∨ w6.heap.size ≤ k := fun k h1 => by
            rcases h1 with h1 | h1 | h1
            · exact .inl (.inl h1)
            · exact (o7 k h1).imp (fun h => .inr (.inl h)) id
            · exact .inl (.inr (.inr h1))
          obtain ⟨v', S2, m8, s8, ss8, c8, o8, vS8⟩ := norm_half2 (w6 := wA.drew) (m7.keep kd (fun _ _ h => h)) (i7.keep kd (fun _ _ h => h)) (fun k h1 h2 => by
              have a1 := hfo k h1
              have a2 := i6.lt k h1
              rcases hRb k h2 with h | h
              · have := hlt k h; omega
              · omega) hRf (fun k h1 h2 => by have a1 := hfo k h1; have a2 := i6.lt k h1; have := (ss7 k h2).1; omega) hcut
          have c8' : Chg (fun k => RegR b v vb k ∨ S1 k) wA wc := c8.undrew
          have hcw : Chg (RegR b va vb) w wc := by
            have k1 : Chg (RegR b va vb) w w6 := (hc.trans hc2 (fun _ h => h.elim) (fun k _ h => .inl h)).trans c6 (fun _ h => h) (fun _ _ h => h.elim)
            have k2 : Chg (RegR b va vb) w wA := k1.trans c7 (fun _ h => h) (fun k hk h => by
              rcases h with h | h
              · exact h
              · omega)
            exact k2.trans c8' (fun _ h => h) (fun k hk h => by
              rcases h with h | h
              · rcases hRb k h with h | h
                · exact h
                · omega
              · have := (ss7 k h).1; omega)
          have hsA := c7.size
          have ss8' : ∀ k, S2 k → w.heap.size ≤ k ∧ (S1 k ∨ wA.heap.size ≤ k) := fun k hk => by
            rcases (ss8 k hk).1 with h | h
            · have := (ss7 k h).1; exact ⟨by omega, .inl h⟩
            · have h' : wA.heap.size ≤ k := h
              exact ⟨by omega, .inr h'⟩
          have hoff : ∀ k, RegR b v v' k → ¬ S2 k := fun k h1 h2 => by
            rcases h1 with h1 | h1 | h1
            · rcases (ss8' k h2).2 with h3 | h3
              · exact hRf k (.inl h1) h3
              · have := hlt k (.inl h1); omega
            · rcases (ss8' k h2).2 with h3 | h3
              · exact vS7 k h1 h3
              · have := m7.na.lt k h1; omega
            · exact vS8 k h1 h2
          have z0 := m8.blk.c0
          have z1 := m8.blk.frozen 0
          have HE := Lib.hid (And.intro m8 (And.intro hcw (And.intro (fun k hk => (o7 k hk).imp id (fun h => (by omega : w.heap.size ≤ k))) (And.intro (fun k hk => (o8 k hk).imp id (fun h => (by have h' : wA.heap.size ≤ k := h; omega : w.heap.size ≤ k))) (And.intro ss8' (And.intro hoff (And.intro s8 hlt)))))))
          clear h3 hS hc hsz hsk hc2 hs21 c6 i6 m6 s6 hlt h7l hbf' hgl hgX hgY hg0 hG6 hfo hn m7 i7 s7 ss7 c7 o7 vS7 hsk6 kd hRf hRb m8 s8 ss8 c8 o8 vS8 c8' hcw hsA ss8' hoff z2 z3 hcut
          go_wp2
          obtain ⟨m8, hcw, o1, o2, ss8', hoff, s8, hlt⟩ := HE.out
          refine leaves_cons (f := 43) (args := #[.pointer (some ⟨sk, 0, none⟩)]) (by simp) (by simp [go_sem]) ?_
          refine (stack_free_d _ (wc.setCell ⟨b, 0, none⟩ (.bool sa)) sk 0 S2 (s8.keep ((Chg.refl (fun k => k = b) wc).setCell (a := ⟨b, 0, none⟩) (fun _ => rfl) _) (fun k hk e => by have := hlt b (.inl rfl); have := (ss8' k hk).1; omega))).mono ?_
          rintro e u' w9 ⟨rfl, hQ⟩
          have hfin := norm_end m8 hcw o1 o2 (fun k hk => (ss8' k hk).1) hoff hQ
          rw [HVV.out.1, HVV.out.2] at hfin
          obtain rfl := hQ.1
          refine ⟨_, results_tmp rfl _ _ _, ?_⟩
          exact hfin
end Go.Proofs.YtbnmgopobmiadaaGreatDoor
