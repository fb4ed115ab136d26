/- Contract of lehmerGCD. -/
import Derived.Test.YtbnmgopobmiadaaGreatDoorB29
import Derived.Deep.LoopGhost

set_option linter.unusedSimpArgs false
set_option linter.unusedVariables false

namespace Go.Proofs.YtbnmgopobmiadaaGreatDoor
open Go.RowKit

theorem quiet_drawn0 {P : Program} {f : FuncId} {args : Array Value} {w : World} {n : Nat} {v : Value}
    (h : Calls P f args (w.drewN n) (Drawn v (w.drewN n))) : Calls P f args (w.drewN n) fun e w'' => e = .returned v ∧ ∃ m, w'' = w.drewN m :=
  h.mono fun _ _ ⟨he, m, hm⟩ => ⟨he, n + m, by rw [hm, World.drewN_drewN]⟩
def pk {α : Type} (a b c d : α) : Fin 4 → α | 0 => a | 1 => b | 2 => c | 3 => d
theorem Fam.mk4 {w0 w : World} {b0 b1 b2 b3 : Nat} {s0 s1 s2 s3 : Bool} {v0 v1 v2 v3 : Value} {X0 X1 X2 X3 n1 n2 n3 n4 : Nat} (i0 : Im w b0 s0 v0 X0) (i1 : Im w b1 s1 v1 X1) (i2 : Im w b2 s2 v2 X2) (i3 : Im w b3 s3 v3 X3)
    (f0 : ∀ k, Reg b0 v0 k → w0.heap.size ≤ k ∧ k < n1) (f1 : ∀ k, Reg b1 v1 k → n1 ≤ k ∧ k < n2) (f2 : ∀ k, Reg b2 v2 k → n2 ≤ k ∧ k < n3) (f3 : ∀ k, Reg b3 v3 k → n3 ≤ k ∧ k < n4) (h1 : w0.heap.size ≤ n1) (h2 : n1 ≤ n2) (h3 : n2 ≤ n3)
    (hc : Chg (fun _ => False) w0 w) : Fam w0 w (pk b0 b1 b2 b3) (pk s0 s1 s2 s3) (pk v0 v1 v2 v3) (pk X0 X1 X2 X3) := by
  have dd : ∀ i j : Fin 4, i < j → Dis (pk b0 b1 b2 b3 i) (pk v0 v1 v2 v3 i) (pk b0 b1 b2 b3 j) (pk v0 v1 v2 v3 j) := by
    intro i j hij k ki kj
    match i, j with
    | 0, 1 => have := f0 k ki; have := f1 k kj; omega
    | 0, 2 => have := f0 k ki; have := f2 k kj; omega
    | 0, 3 => have := f0 k ki; have := f3 k kj; omega
    | 1, 2 => have := f1 k ki; have := f2 k kj; omega
    | 1, 3 => have := f1 k ki; have := f3 k kj; omega
    | 2, 3 => have := f2 k ki; have := f3 k kj; omega
    | 0, 0 => exact absurd hij (by decide)
    | 1, 0 => exact absurd hij (by decide)
    | 1, 1 => exact absurd hij (by decide)
    | 2, 0 => exact absurd hij (by decide)
    | 2, 1 => exact absurd hij (by decide)
    | 2, 2 => exact absurd hij (by decide)
    | 3, 0 => exact absurd hij (by decide)
    | 3, 1 => exact absurd hij (by decide)
    | 3, 2 => exact absurd hij (by decide)
    | 3, 3 => exact absurd hij (by decide)
  refine ⟨fun i => ?_, fun i j hij => ?_, fun i k hk => ?_, hc⟩
  · match i with
    | 0 => exact i0
    | 1 => exact i1
    | 2 => exact i2
    | 3 => exact i3
  · rcases Nat.lt_or_gt_of_ne (fun h => hij (Fin.ext h)) with h | h
    · exact dd i j h
    · exact (dd j i h).symm
  · match i with
    | 0 => exact (f0 k hk).1
    | 1 => have := (f1 k hk).1; omega
    | 2 => have := (f2 k hk).1; omega
    | 3 => have := (f3 k hk).1; omega
theorem Fam.drewN {w0 w : World} {b : Fin 4 → Nat} {s : Fin 4 → Bool} {v : Fin 4 → Value} {X : Fin 4 → Nat} (h : Fam w0 w b s v X) (n : Nat) : Fam w0 (w.drewN n) b s v X :=
  ⟨fun i => ⟨(h.im i).blk, (h.im i).nv, (h.im i).own⟩, h.dis, h.fresh, h.chg.drewN n⟩
theorem Ir.keep {S : Nat → Prop} {w w' : World} {b o : Nat} {s : Bool} {v : Value} {X : Nat} (h : Ir w b o s v X) (hc : Chg S w w') (hb : ¬ S b) (hv : Off S v) : Ir w' b o s v X :=
  ⟨hc.cell h.c0 hb, hc.cell h.c1 hb, h.nv.keep hc hv, hc.wb h.pl hb⟩
theorem Ir.keepF {w w' : World} {b o : Nat} {s : Bool} {v : Value} {X : Nat} (h : Ir w b o s v X) (hc : Chg (fun _ => False) w w') : Ir w' b o s v X := h.keep hc (fun h => h) (fun _ _ h => h)

/-- the four Ints, at p0 and p1 the numbers X and Y -/
def GSt (w0 w : World) (p0 p1 p2 p3 : Nat) (X Y : Nat) : Prop :=
  ∃ b s v Xs, b 0 = p0 ∧ b 1 = p1 ∧ b 2 = p2 ∧ b 3 = p3 ∧ Fam w0 w b s v Xs ∧ s 0 = false ∧ s 1 = false ∧ Xs 0 = X ∧ Xs 1 = Y
theorem GSt.drewN {w0 w : World} {p0 p1 p2 p3 X Y : Nat} (h : GSt w0 w p0 p1 p2 p3 X Y) (n : Nat) : GSt w0 (w.drewN n) p0 p1 p2 p3 X Y := by
  obtain ⟨b, s, v, Xs, h1, h2, h3, h4, hf, h5⟩ := h
  exact ⟨b, s, v, Xs, h1, h2, h3, h4, hf.drewN n, h5⟩
theorem GSt.two {w0 w : World} {p0 p1 p2 p3 X Y : Nat} (h : GSt w0 w p0 p1 p2 p3 X Y) : ∃ v0 v1, Im w p0 false v0 X ∧ Im w p1 false v1 Y ∧ Chg (fun _ => False) w0 w ∧ (∀ k, Reg p0 v0 k → w0.heap.size ≤ k) ∧ Dis p0 v0 p1 v1 := by
  obtain ⟨b, s, v, Xs, rfl, rfl, rfl, rfl, hf, h5, h6, rfl, rfl⟩ := h
  have i0 := hf.im 0
  have i1 := hf.im 1
  rw [h5] at i0
  rw [h6] at i1
  exact ⟨_, _, i0, i1, hf.chg, fun k hk => hf.fresh 0 k hk, hf.dis 0 1 (by decide)⟩
theorem GSt.sim {w0 w : World} {p0 p1 p2 p3 X Y : Nat} (h : GSt w0 w p0 p1 p2 p3 X Y) (hYX : Y ≤ X) (hY : 2 ≤ wlen Y) (hX : wlen X ≤ 1000) :
    Calls Tryz.prog 127 #[.pointer (some ⟨p0, 0, none⟩), .pointer (some ⟨p1, 0, none⟩)] w (Sim X Y w) := by
  obtain ⟨v0, v1, i0, i1, _⟩ := h.two
  exact lehmerSimulate p0 p1 v0 v1 X Y w i0 i1 hYX hY (by omega)
theorem GSt.euclid {w0 w : World} {p0 p1 p2 p3 X Y : Nat} (h : GSt w0 w p0 p1 p2 p3 X Y) (hX : wlen X ≤ 1000) (hY : wlen Y < 40) (hY0 : Y ≠ 0) (hG : w0.cell? ⟨7, 0, none⟩ = some (.int .i64 40)) :
    Calls Tryz.prog 129 #[.pointer (some ⟨p0, 0, none⟩), .pointer (some ⟨p1, 0, none⟩), .pointer none, .pointer none, .pointer (some ⟨p2, 0, none⟩), .pointer (some ⟨p3, 0, none⟩), .bool false] w
      (fun e w' => e = .returned (.tuple #[.pointer (some ⟨p1, 0, none⟩), .pointer (some ⟨p3, 0, none⟩), .pointer (some ⟨p0, 0, none⟩), .pointer none, .pointer none]) ∧ GSt w0 w' p1 p3 p2 p0 Y (X % Y)) := by
  obtain ⟨b, s, v, Xs, rfl, rfl, rfl, rfl, hf, h5, h6, rfl, rfl⟩ := h
  exact (euclidUpdate hf h5 h6 (by omega) hY hY0 hG).mono fun e w' ⟨he, s', v', X', g, g1, g2, g3, g4⟩ => ⟨he, fun i => b (prm i), s', v', X', rfl, rfl, rfl, rfl, g, g1, g2, g3, g4⟩
theorem GSt.update {w0 w : World} {p0 p1 p2 p3 X Y : Nat} (h : GSt w0 w p0 p1 p2 p3 X Y) (even : Bool) (u0 u1 v0 v1 : Nat) (hX : wlen X ≤ 1000) (hY : wlen Y ≤ 1000) (hX0 : X ≠ 0) (hY0 : Y ≠ 0)
    (hu0 : u0 < B) (hu1 : u1 < B) (hv0 : v0 < B) (hv1 : v1 < B) (hv00 : v0 ≠ 0) (hL : LehOut X Y even u0 u1 v0 v1) :
    Calls Tryz.prog 128 #[.pointer (some ⟨p0, 0, none⟩), .pointer (some ⟨p1, 0, none⟩), .pointer (some ⟨p2, 0, none⟩), .pointer (some ⟨p3, 0, none⟩), .int .u64 u0, .int .u64 u1, .int .u64 v0, .int .u64 v1, .bool even] w
      (fun e w' => e = .returned (.tuple #[]) ∧ ∃ X' Y', GSt w0 w' p0 p1 p2 p3 X' Y' ∧ Y' < X' ∧ X' ≤ Y ∧ Nat.gcd X' Y' = Nat.gcd X Y) := by
  obtain ⟨b, s, v, Xs, rfl, rfl, rfl, rfl, hf, h5, h6, rfl, rfl⟩ := h
  exact (lehmerUpdate hf even u0 u1 v0 v1 h5 h6 hX hY hY0 hX0 hu0 hu1 hv0 hv1 hv00 hL).mono fun e w' ⟨he, s', v', X', g, g1, g2, g3, g4, g5⟩ => ⟨he, _, _, ⟨_, s', v', X', rfl, rfl, rfl, rfl, g, g1, g2, rfl, rfl⟩, g3, g4, g5⟩

/-- the Int at p has the number G, made since w0 -/
def AA (w0 w : World) (p G : Nat) : Prop := ∃ v, Im w p false v G ∧ Chg (fun _ => False) w0 w ∧ ∀ k, Reg p v k → w0.heap.size ≤ k
theorem GSt.aa {w0 w : World} {p0 p1 p2 p3 X Y : Nat} (h : GSt w0 w p0 p1 p2 p3 X Y) : AA w0 w p0 X := by
  obtain ⟨v0, v1, i0, _, h1, h2, _⟩ := h.two
  exact ⟨v0, i0, h1, h2⟩
theorem AA.set {w0 w : World} {p G bz Z : Nat} {vz : Value} (h : AA w0 w p G) (hz : Im w0 bz false vz Z) (hG : wlen G ≤ 10000) :
    Calls Tryz.prog 132 #[.pointer (some ⟨bz, 0, none⟩), .pointer (some ⟨p, 0, none⟩)] w (ImGives bz vz false G (.pointer (some ⟨bz, 0, none⟩)) w0) := by
  obtain ⟨v, hi, hc, hf⟩ := h
  have hs := hc.size
  have hb := hz.blk.lt
  have hp := hf p (.inl rfl)
  refine (intSet bz p 0 false false vz v Z G w (hz.keep hc (fun _ _ h => h)) hi.ir hG ⟨by omega, fun e => ?_, fun k hk e => ?_⟩).mono fun e w' ⟨he, v', g1, g2, g3⟩ => ⟨he, v', g1, hc.trans g2 (fun _ h => h.elim) (fun _ _ h => h), fun k hk => (g3 k hk).imp id (fun h => by omega)⟩
  · have := hz.nv.lt p e; omega
  · have := hf k (.inr hk); have := hz.nv.lt k e; omega
theorem gcd_step_nat (X Y : Nat) : Nat.gcd Y (X % Y) = Nat.gcd X Y := by rw [Nat.gcd_comm X Y, Nat.gcd_rec Y X, Nat.gcd_comm]

theorem gcd_start {w0 w2 w4 : World} {v1 v2 : Value} {X Y : Nat} (im1 : Im w2 w0.heap.size false v1 X)
    (o1 : ∀ k, v1.ownBlock = some k → (Value.slice none 0 0).ownBlock = some k ∨ (w0.alloc (.cells #[.bool false, .slice none 0 0] 84)).heap.size ≤ k) (k2 : Chg (fun _ => False) w0 w2)
    (im2 : Im w4 w2.heap.size false v2 Y) (c2 : Chg (Reg w2.heap.size (.slice none 0 0)) (w2.alloc (.cells #[.bool false, .slice none 0 0] 84)) w4)
    (o2 : ∀ k, v2.ownBlock = some k → (Value.slice none 0 0).ownBlock = some k ∨ (w2.alloc (.cells #[.bool false, .slice none 0 0] 84)).heap.size ≤ k) :
    Fam w0 ((w4.alloc (.cells #[.bool false, .slice none 0 0] 84)).alloc (.cells #[.bool false, .slice none 0 0] 84)) (pk w0.heap.size w2.heap.size w4.heap.size (w4.heap.size + 1)) (pk false false false false)
      (pk v1 v2 (.slice none 0 0) (.slice none 0 0)) (pk X Y 0 0) := by
  have s0 := k2.size
  rw [alloc_size] at o1 o2
  have kA : Chg (fun _ => False) w2 w4 := ((Chg.refl (fun _ => False) w2).alloc _).trans c2 (fun _ h => h) (fun k hk h => by
    rcases h with rfl | h
    · omega
    · simp [Value.ownBlock] at h)
  have s2 := kA.size
  have kB : Chg (fun _ => False) w4 ((w4.alloc (.cells #[.bool false, .slice none 0 0] 84)).alloc (.cells #[.bool false, .slice none 0 0] 84)) := ((Chg.refl (fun _ => False) w4).alloc _).alloc _
  have i3 := Im.new (w4.alloc (.cells #[.bool false, .slice none 0 0] 84))
  rw [alloc_size] at i3
  have z1 : ∀ k, Reg w0.heap.size v1 k → w0.heap.size ≤ k ∧ k < w2.heap.size := fun k hk => by
    refine ⟨?_, im1.lt k hk⟩
    rcases hk with rfl | hk
    · omega
    · rcases o1 k hk with h | h
      · simp [Value.ownBlock] at h
      · omega
  have z2 : ∀ k, Reg w2.heap.size v2 k → w2.heap.size ≤ k ∧ k < w4.heap.size := fun k hk => by
    refine ⟨?_, im2.lt k hk⟩
    rcases hk with rfl | hk
    · omega
    · rcases o2 k hk with h | h
      · simp [Value.ownBlock] at h
      · omega
  have z3 : ∀ n k, Reg n (.slice none 0 0) k → n ≤ k ∧ k < n + 1 := fun n k hk => by
    rcases hk with rfl | hk
    · omega
    · simp [Value.ownBlock] at hk
  exact Fam.mk4 ((im1.keep kA (fun _ _ h => h)).keep kB (fun _ _ h => h)) (im2.keep kB (fun _ _ h => h)) ((Im.new w4).keep ((Chg.refl (fun _ => False) _).alloc _) (fun _ _ h => h)) i3 z1 z2 (z3 _) (z3 _) s0 s2 (by omega)
    ((k2.trans kA (fun _ h => h) (fun _ _ h => h)).trans kB (fun _ h => h) (fun _ _ h => h))

set_option maxHeartbeats 16000000 in
set_option maxRecDepth 100000 in
theorem lehmerGCD (bz ba oa bb ob : Nat) (vz va vb : Value) (sa sb : Bool) (Z X Y : Nat) (w0 : World) (hz : Im w0 bz false vz Z) (ha : Ir w0 ba oa sa va X) (hb : Ir w0 bb ob sb vb Y) (hX0 : X ≠ 0) (hY0 : Y ≠ 0)
    (hX : wlen X < 40) (hY : wlen Y < 40) (hG : w0.cell? ⟨7, 0, none⟩ = some (.int .i64 40)) :
    Calls Tryz.prog 76 #[.pointer (some ⟨bz, 0, none⟩), .pointer none, .pointer none, .pointer (some ⟨ba, oa, none⟩), .pointer (some ⟨bb, ob, none⟩)] w0 (ImGives bz vz false (Nat.gcd X Y) (.pointer (some ⟨bz, 0, none⟩)) w0) := by
  have k1 : Chg (fun _ => False) w0 (w0.alloc (.cells #[.bool false, .slice none 0 0] 84)) := (Chg.refl _ w0).alloc _
  have hbl := ha.pl.lt
  have hbl2 := hb.pl.lt
  have habs1 := intAbs w0.heap.size ba oa false sa (.slice none 0 0) va 0 X (w0.alloc (.cells #[.bool false, .slice none 0 0] 84)) (Im.new w0) (ha.keepF k1) (by omega) ⟨by omega, by simp [Value.ownBlock], fun k _ h => by simp [Value.ownBlock] at h⟩
  have HZ := Lib.hid (And.intro hz (And.intro ha (And.intro hb (And.intro hX0 (And.intro hY0 (And.intro hX (And.intro hY (And.intro hG (And.intro hbl (And.intro hbl2 k1))))))))))
  clear hz ha hb hX0 hY0 hX hY hG hbl hbl2 k1
  go_enter Tryz.func76, Tryz.ntmps76
  go_wp2_with fail
  refine habs1.mono ?_
  rintro e w2 ⟨rfl, v1, im1, c1, o1⟩
  obtain ⟨hz, ha, hb, hX0, hY0, hX, hY, hG, hbl, hbl2, k1⟩ := HZ.out
  have k2 : Chg (fun _ => False) w0 w2 := k1.trans c1 (fun _ h => h) (fun k hk h => by
    rcases h with rfl | h
    · omega
    · simp [Value.ownBlock] at h)
  have k3 := k2.alloc (.cells #[.bool false, .slice none 0 0] 84)
  have hsz2 := k2.size
  have habs2 := intAbs w2.heap.size bb ob false sb (.slice none 0 0) vb 0 Y (w2.alloc (.cells #[.bool false, .slice none 0 0] 84)) (Im.new w2) (hb.keepF k3) (by omega) ⟨by omega, by simp [Value.ownBlock], fun k _ h => by simp [Value.ownBlock] at h⟩
  have H1 := Lib.hid (And.intro im1 (And.intro c1 (And.intro o1 (And.intro k2 (And.intro k3 hsz2)))))
  clear hz ha hb hX0 hY0 hX hY hG hbl hbl2 k1 k2 k3 im1 c1 o1 hsz2 habs1
  go_wp2_with fail
  refine habs2.mono ?_
  rintro e w4 ⟨rfl, v2, im2, c2, o2⟩
  clear habs2
  have hf := gcd_start H1.out.1 H1.out.2.2.1 H1.out.2.2.2.1 im2 c2 o2
  have j0 : Im _ w0.heap.size false v1 X := hf.im 0
  have j1 : Im _ w2.heap.size false v2 Y := hf.im 1
  obtain ⟨w6, hw6⟩ : ∃ w6, w6 = (w4.alloc (.cells #[.bool false, .slice none 0 0] 84)).alloc (.cells #[.bool false, .slice none 0 0] 84) := ⟨_, rfl⟩
  rw [← hw6] at hf j0 j1
  have a1 := j0.blk.c1
  have b1 := j1.blk.c1
  have hcmp : ∀ k, Calls Tryz.prog 126 #[v1, v2] (w6.drewN k) (Drawn (.int .i64 (cmpN X Y)) (w6.drewN k)) := fun k => cmp_any v1 v2 X Y (w6.drewN k) j0.nv j1.nv (by have := HZ.out.2.2.2.2.2.1; omega) (by have := HZ.out.2.2.2.2.2.2.1; omega)
  have HF := Lib.hid (And.intro hf hcmp)
  clear hf j0 j1 hcmp im2 c2 o2
  go_wp2
  rw [← hw6]
  clear hw6
  go_quiet ((go_at_call 126; refine quiet_drawn0 (HF.out.2 _)))
  have hcs : X < Y ∨ Y ≤ X := Nat.lt_or_ge X Y
  rcases hcs with hlt | hge
  case' inl =>
    have hc : cmpN X Y < 0 := by unfold cmpN; rw [if_pos hlt]; omega
    have hst : GSt w0 w6 w2.heap.size w0.heap.size w4.heap.size (w4.heap.size + 1) Y X := ⟨_, _, _, _, rfl, rfl, rfl, rfl, HF.out.1.perm swp swp_inj, rfl, rfl, rfl, rfl⟩
    have hgc : Nat.gcd Y X = Nat.gcd X Y := Nat.gcd_comm _ _
    have hle : X ≤ Y := Nat.le_of_lt hlt
    have hsm : X ≤ X + Y ∧ Y ≠ 0 ∧ wlen Y < 40 := ⟨by omega, HZ.out.2.2.2.2.1, HZ.out.2.2.2.2.2.2.1⟩
    have HST := Lib.hid (And.intro hst (And.intro hgc (And.intro hle hsm)))
    clear hst hgc hle hsm hlt
    generalize cmpN X Y = c at *
    go_wp2
  case' inr =>
    have hc : ¬ cmpN X Y < 0 := by unfold cmpN; rw [if_neg (by omega)]; split <;> omega
    have hst : GSt w0 w6 w0.heap.size w2.heap.size w4.heap.size (w4.heap.size + 1) X Y := ⟨_, _, _, _, rfl, rfl, rfl, rfl, HF.out.1, rfl, rfl, rfl, rfl⟩
    have hgc : Nat.gcd X Y = Nat.gcd X Y := rfl
    have hsm : Y ≤ X + Y ∧ X ≠ 0 ∧ wlen X < 40 := ⟨by omega, HZ.out.2.2.2.1, HZ.out.2.2.2.2.2.1⟩
    have HST := Lib.hid (And.intro hst (And.intro hgc (And.intro hge hsm)))
    clear hst hgc hge hsm
    generalize cmpN X Y = c at *
    go_wp2
  all_goals
    clear hc
    try generalize decide (c < 0) = d60 at *
    go_loopg [11, 12, 13, 14, 17] (X + Y) (fun k s11 s12 s13 s14 s17 wr => ∃ p0 p1 p3 X' Y' : Nat, s11 = .pointer (some ⟨p0, 0, none⟩) ∧ s12 = .pointer (some ⟨p1, 0, none⟩) ∧ s13 = .pointer none ∧ s14 = .pointer none ∧ s17 = .pointer (some ⟨p3, 0, none⟩) ∧
      GSt w0 wr p0 p1 w4.heap.size p3 X' Y' ∧ Nat.gcd X' Y' = Nat.gcd X Y ∧ Y' ≤ X' ∧ Y' ≤ k ∧ X' ≠ 0 ∧ wlen X' < 40)
    case atStart =>
      obtain ⟨hst, hgc, hle, h1, h2, h3⟩ := HST.out
      exact ⟨_, _, _, _, _, rfl, rfl, rfl, rfl, rfl, hst.drewN nq, (by first | exact hgc | rfl), hle, h1, h2, h3⟩
    case round =>
      obtain ⟨p0, p1, p3, X', Y', rfl, rfl, rfl, rfl, rfl, hS, hgc, hle, hk, hX', hXl⟩ := hrel
      have hgl : wlen (Nat.gcd X Y) ≤ 10000 := by
        have h1 := wlen_mono (Nat.gcd_le_left Y' (Nat.pos_of_ne_zero hX'))
        rw [hgc] at h1; omega
      obtain ⟨v0, v1, i0, i1, hch, hfr, hds⟩ := hS.two
      obtain ⟨ya, yc, rfl⟩ := i1.nv.shape
      have b1 := i1.blk.c1
      by_cases hy : 1 < wlen Y'
      · have g1 : (1 : Int) < wlen Y' := by omega
        have hY' : Y' ≠ 0 := by rintro rfl; rw [wlen_zero] at hy; omega
        have hsim := hS.sim hle (by omega) (by omega)
        have hYl : wlen Y' < 40 := by have := wlen_mono hle; omega
        have HS := Lib.hid (And.intro hS (And.intro hgc (And.intro hle (And.intro hk (And.intro hX' (And.intro hXl (And.intro hY' hYl)))))))
        clear i0 i1 hch hfr hds hS hgc hle hk hX' hXl hY' hYl hgl
        obtain ⟨ly, hly⟩ : ∃ l, l = wlen Y' := ⟨_, rfl⟩
        rw [← hly] at b1 g1 hy
        clear hly
        go_wp2_with fail
        refine hsim.mono ?_
        rintro e w' ⟨u0, u1, v0', v1', even, rfl, l1, l2, l3, l4, l5, n, rfl⟩
        clear hsim
        by_cases hv : v0' = 0
        · subst hv
          obtain ⟨hS, hgc, hle, hk, hX', hXl, hY', hYl⟩ := HS.out
          have heu := (hS.drewN n).euclid (by omega) hYl hY' HZ.out.2.2.2.2.2.2.2.1
          clear hS hgc hle hk hX' hXl hY' hYl l5
          go_wp2_with fail
          refine heu.mono ?_
          rintro e w2' ⟨rfl, hS2⟩
          have H2 := Lib.hid hS2
          clear hS2 heu b1
          go_wp2
          go_roundg (X' % Y')
          case measure =>
            obtain ⟨hS, hgc, hle, hk, hX', hXl, hY', hYl⟩ := HS.out
            have := Nat.mod_lt X' (Nat.pos_of_ne_zero hY'); omega
          case rel =>
            obtain ⟨hS, hgc, hle, hk, hX', hXl, hY', hYl⟩ := HS.out
            exact ⟨p1, p3, p0, Y', X' % Y', rfl, rfl, rfl, rfl, rfl, H2.out, by rw [gcd_step_nat]; exact hgc, Nat.le_of_lt (Nat.mod_lt X' (Nat.pos_of_ne_zero hY')), Nat.le_refl _, hY', hYl⟩
        · have e1 : ((v0' : Int) != 0) = true := by rw [bne_iff_ne]; omega
          obtain ⟨hS, hgc, hle, hk, hX', hXl, hY', hYl⟩ := HS.out
          have hup := (hS.drewN n).update even u0 u1 v0' v1' (by omega) (by omega) hX' hY' l1 l2 l3 l4 hv (l5.resolve_left hv)
          clear hS hgc hle hk hX' hXl hY' hYl l5 hv
          go_wp2_with fail
          refine hup.mono ?_
          rintro e w2' ⟨rfl, X2, Y2, hS2, z1, z2, z3⟩
          have H2 := Lib.hid (And.intro hS2 (And.intro z1 (And.intro z2 z3)))
          clear hS2 hup b1 z1 z2 z3
          go_wp2
          go_roundg Y2
          case measure =>
            obtain ⟨hS, hgc, hle, hk, hX', hXl, hY', hYl⟩ := HS.out
            obtain ⟨_, z1, z2, z3⟩ := H2.out
            omega
          case rel =>
            obtain ⟨hS, hgc, hle, hk, hX', hXl, hY', hYl⟩ := HS.out
            obtain ⟨hS2, z1, z2, z3⟩ := H2.out
            exact ⟨p0, p1, p3, X2, Y2, rfl, rfl, rfl, rfl, rfl, hS2, z3.trans hgc, Nat.le_of_lt z1, Nat.le_refl _, by omega, by have := wlen_mono z2; omega⟩
      · have g1 : ¬ (1 : Int) < wlen Y' := by omega
        by_cases hY0 : Y' = 0
        · subst hY0
          rw [Nat.gcd_zero_right] at hgc
          subst hgc
          have hAA := hS.aa
          have hGl : wlen (Nat.gcd X Y) ≤ 10000 := hgl
          rw [wlen_zero] at b1 g1
          clear i0 i1 hch hfr hds hS hle hk hX' hXl hgl
          have hA := Lib.hid hAA
          have hset := hAA.set HZ.out.1 hGl
          have hneg : wr.cell? ⟨ba, oa, none⟩ = some (.bool sa) := by
            obtain ⟨_, _, hc, _⟩ := hAA
            exact hc.cell HZ.out.2.1.c0 (fun h => h)
          clear hAA
          go_wp2_with fail
          refine hset.mono ?_
          rintro e wf hg
          have he := hg.1
          subst he
          have HG := Lib.hid hg
          clear hg hset hneg
          go_wp2
          go_ret
          exact HG.out
        · have hyl : wlen Y' = 1 := by have := mt wlen_eq_zero.1 hY0; omega
          have hYB : Y' < B := by have := lt_wlen Y'; rw [hyl, Nat.pow_one] at this; exact this
          obtain ⟨xa, xc, rfl⟩ := i0.nv.shape
          have b0 := i0.blk.c1
          rw [hyl] at b1
          by_cases hx : 1 < wlen X'
          · have g2 : (1 : Int) < wlen X' := by omega
            have heu := hS.euclid (by omega) (by omega) hY0 HZ.out.2.2.2.2.2.2.2.1
            have HS := Lib.hid (And.intro hgc (And.intro hY0 (And.intro hYB (And.intro hgl hyl))))
            clear i0 i1 hch hfr hds hS hgc hle hk hX' hXl hY0 hgl hyl g1 hy hYB
            obtain ⟨lx, hlx⟩ : ∃ l, l = wlen X' := ⟨_, rfl⟩
            rw [← hlx] at b0 g2 hx
            clear hlx
            go_wp2_with fail
            refine heu.mono ?_
            rintro e w5 ⟨rfl, hS⟩
            clear heu
            obtain ⟨hgc, hY0, hYB, hgl, hyl⟩ := HS.out
            rw [← gcd_step_nat] at hgc
            have hRB : X' % Y' < B := Nat.lt_trans (Nat.mod_lt X' (Nat.pos_of_ne_zero hY0)) hYB
            generalize X' % Y' = R at *
            obtain ⟨v0', v1', j0, j1, _, _, _⟩ := hS.two
            obtain ⟨ra, rc, rfl⟩ := j1.nv.shape
            have r1 := j1.blk.c1
            by_cases hR : R = 0
            · subst hR
              rw [Nat.gcd_zero_right] at hgc
              subst hgc
              have hAA := hS.aa
              have hGl : wlen (Nat.gcd X Y) ≤ 10000 := hgl
              rw [wlen_zero] at r1
              clear hS j0 j1 hgl hyl hY0 hYB hRB b0 b1
              have hset := hAA.set HZ.out.1 hGl
              have hneg : w5.cell? ⟨ba, oa, none⟩ = some (.bool sa) := by
                obtain ⟨_, _, hc, _⟩ := hAA
                exact hc.cell HZ.out.2.1.c0 (fun h => h)
              clear hAA
              go_wp2_with fail
              refine hset.mono ?_
              rintro e wf hg
              have he := hg.1
              subst he
              have HG := Lib.hid hg
              clear hg hset hneg
              go_wp2
              go_ret
              exact HG.out
            · have hA0 := hY0
              have hB0 := hR
              have hAB := hYB
              have hBB := hRB
              clear r1
              clear j0 j1 hyl hY0 hYB hRB hR b0 b1
              obtain ⟨va', vb', i0, i1, hch, hfr, hds⟩ := hS.two
              obtain ⟨ab, acap, rfl, a1', a2', a3', a4'⟩ := i0.nv.pos hA0
              obtain ⟨bbk, bcap, rfl, b1', b2', b3', b4'⟩ := i1.nv.pos hB0
              have hla := wlen_one hA0 hAB
              have hlb := wlen_one hB0 hBB
              rw [hla] at a1' a4' i0
              rw [hlb] at b1' b4' i1
              have q1 := i0.blk.c1
              have q2 := i1.blk.c1
              have q3 : w5.cell? ⟨ab, 0, none⟩ = some (.int .u64 (Y' : Nat)) := by
                have := a4' 0 (by omega)
                rw [wd, dig_zero, Nat.mod_eq_of_lt hAB] at this; exact this
              have q4 : w5.cell? ⟨bbk, 0, none⟩ = some (.int .u64 (R : Nat)) := by
                have := b4' 0 (by omega)
                rw [wd, dig_zero, Nat.mod_eq_of_lt hBB] at this; exact this
              have q5 := a3'.frozen 0
              have hown := i0.own
              have HW := Lib.hid (And.intro i0 (And.intro hch (And.intro hfr (And.intro a3' (And.intro a2' hgl)))))
              have HQ := Lib.hid (And.intro hgc (And.intro hA0 (And.intro hAB hBB)))
              rw [hla, hlb] at *
              clear hS i0 i1 hch hfr hds a3' a4' b3' b4' hgl hgc hA0 hB0 hAB hBB hla hlb hown a2' b2'
              go_wp2
              go_quiet (fail)
              go_wp2
              go_loopw [23, 24] (fun av bv wx => ∃ a b k : Nat, av = .int .u64 a ∧ bv = .int .u64 b ∧ a < B ∧ b < B ∧ a ≠ 0 ∧ Nat.gcd a b = Nat.gcd X Y ∧ wx = w5.drewN k) (fun _ bv _ => (intOf bv).toNat)
              case atStart => exact ⟨Y', R, _, rfl, rfl, HQ.out.2.2.1, HQ.out.2.2.2, HQ.out.2.1, HQ.out.1, rfl⟩
              case round =>
                obtain ⟨a, b, k, rfl, rfl, ha1, hb1, ha0, hg, rfl⟩ := hrel
                by_cases hb0 : b = 0
                · subst hb0
                  rw [Nat.gcd_zero_right] at hg
                  have HG1 := Lib.hid (And.intro hg (And.intro ha0 ha1))
                  clear hg ha0 ha1 hb1
                  obtain ⟨i0, hch, hfr, a3', a2', hgl⟩ := HW.out
                  have hw := (Wr.start (a3'.mono (o' := 0) (n' := 1) (by omega)) a).snoc (m := 1) (a3'.mono (by omega)) (by omega) (v := .int .u64 (a : Nat)) (by rw [wd, dig_zero, Nat.mod_eq_of_lt HG1.out.2.2])
                  rw [Nat.add_zero, Nat.zero_add] at hw
                  have hAA : AA w0 ((w5.drewN k).setCell ⟨ab, 0, none⟩ (.int .u64 (a : Nat))) p1 (Nat.gcd X Y) := by
                    have hwd : Wr w5 ((w5.drewN k).setCell ⟨ab, 0, none⟩ (.int .u64 (a : Nat))) ab 0 1 a := ⟨hw.os, hw.tape, hw.output, hw.size, hw.other, hw.blk⟩
                    refine ⟨.slice (some ⟨ab, 0, none⟩) 1 acap, ⟨i0.blk.keep hwd.chg (fun h => i0.own (by rw [h]; rfl)), ?_, i0.own⟩, hch.trans hwd.chg (fun _ h => h) (fun j hj h => by have := hfr ab (.inr rfl); omega), hfr⟩
                    obtain ⟨hg, ha0, ha1⟩ := HG1.out
                    rw [← hg]
                    have hl := wlen_one ha0 ha1
                    exact .inr ⟨ab, acap, by rw [hl], by rw [hl]; omega, a2', hwd.wb a3', by rw [hl]; exact hwd.rd⟩
                  have hGl : wlen (Nat.gcd X Y) ≤ 10000 := hgl
                  clear i0 hch hfr a3' a2' hgl hw
                  have hset := hAA.set HZ.out.1 hGl
                  have hneg : ((w5.drewN k).setCell ⟨ab, 0, none⟩ (.int .u64 (a : Nat))).cell? ⟨ba, oa, none⟩ = some (.bool sa) := by
                    obtain ⟨_, _, hc, _⟩ := hAA
                    exact hc.cell HZ.out.2.1.c0 (fun h => h)
                  clear hAA
                  go_wp2_with fail
                  refine hset.mono ?_
                  rintro e wf hg
                  have he := hg.1
                  subst he
                  have HG := Lib.hid hg
                  clear hg hset hneg
                  go_wp2
                  go_ret
                  exact HG.out
                · have z1 : ((b : Int) != 0) = true := by rw [bne_iff_ne]; omega
                  have z2 : ((b : Int) == 0) = false := beq_eq_false_iff_ne.2 (by omega)
                  have HG1 := Lib.hid (And.intro hg (And.intro ha0 ha1))
                  clear hg ha0 ha1
                  go_wp2
                  go_quiet (fail)
                  go_wp2
                  obtain ⟨hg, ha0, ha1⟩ := HG1.out
                  have hml := Nat.mod_lt a (Nat.pos_of_ne_zero hb0)
                  refine ⟨⟨b, a % b, _, rfl, by rw [Int.natCast_emod], hb1, by omega, hb0, by rw [gcd_step_nat]; exact hg, World.drewN_drewN _ _ _⟩, ?_⟩
                  simp [intOf]; omega
          · have g2 : ¬ (1 : Int) < wlen X' := by omega
            have hxl : wlen X' = 1 := by have := mt wlen_eq_zero.1 hX'; omega
            have hXB : X' < B := by have := lt_wlen X'; rw [hxl, Nat.pow_one] at this; exact this
            have hA0 := hX'
            have hB0 := hY0
            have hAB := hXB
            have hBB := hYB
            clear b0 b1
            clear i0 i1 hch hfr hds hle hk hXl hyl hYB hXB hxl hX' hY0 g1 g2 hx hy
            obtain ⟨va', vb', i0, i1, hch, hfr, hds⟩ := hS.two
            obtain ⟨ab, acap, rfl, a1', a2', a3', a4'⟩ := i0.nv.pos hA0
            obtain ⟨bbk, bcap, rfl, b1', b2', b3', b4'⟩ := i1.nv.pos hB0
            have hla := wlen_one hA0 hAB
            have hlb := wlen_one hB0 hBB
            rw [hla] at a1' a4' i0
            rw [hlb] at b1' b4' i1
            have q1 := i0.blk.c1
            have q2 := i1.blk.c1
            have q3 : wr.cell? ⟨ab, 0, none⟩ = some (.int .u64 (X' : Nat)) := by
              have := a4' 0 (by omega)
              rw [wd, dig_zero, Nat.mod_eq_of_lt hAB] at this; exact this
            have q4 : wr.cell? ⟨bbk, 0, none⟩ = some (.int .u64 (Y' : Nat)) := by
              have := b4' 0 (by omega)
              rw [wd, dig_zero, Nat.mod_eq_of_lt hBB] at this; exact this
            have q5 := a3'.frozen 0
            have hown := i0.own
            have HW := Lib.hid (And.intro i0 (And.intro hch (And.intro hfr (And.intro a3' (And.intro a2' hgl)))))
            have HQ := Lib.hid (And.intro hgc (And.intro hA0 (And.intro hAB hBB)))
            rw [hla, hlb] at *
            clear hS i0 i1 hch hfr hds a3' a4' b3' b4' hgl hgc hA0 hB0 hAB hBB hla hlb hown a2' b2'
            go_wp2
            go_quiet (fail)
            go_wp2
            go_loopw [23, 24] (fun av bv wx => ∃ a b k : Nat, av = .int .u64 a ∧ bv = .int .u64 b ∧ a < B ∧ b < B ∧ a ≠ 0 ∧ Nat.gcd a b = Nat.gcd X Y ∧ wx = wr.drewN k) (fun _ bv _ => (intOf bv).toNat)
            case atStart => exact ⟨X', Y', _, rfl, rfl, HQ.out.2.2.1, HQ.out.2.2.2, HQ.out.2.1, HQ.out.1, rfl⟩
            case round =>
              obtain ⟨a, b, k, rfl, rfl, ha1, hb1, ha0, hg, rfl⟩ := hrel
              by_cases hb0 : b = 0
              · subst hb0
                rw [Nat.gcd_zero_right] at hg
                have HG1 := Lib.hid (And.intro hg (And.intro ha0 ha1))
                clear hg ha0 ha1 hb1
                obtain ⟨i0, hch, hfr, a3', a2', hgl⟩ := HW.out
                have hw := (Wr.start (a3'.mono (o' := 0) (n' := 1) (by omega)) a).snoc (m := 1) (a3'.mono (by omega)) (by omega) (v := .int .u64 (a : Nat)) (by rw [wd, dig_zero, Nat.mod_eq_of_lt HG1.out.2.2])
                rw [Nat.add_zero, Nat.zero_add] at hw
                have hAA : AA w0 ((wr.drewN k).setCell ⟨ab, 0, none⟩ (.int .u64 (a : Nat))) p0 (Nat.gcd X Y) := by
                  have hwd : Wr wr ((wr.drewN k).setCell ⟨ab, 0, none⟩ (.int .u64 (a : Nat))) ab 0 1 a := ⟨hw.os, hw.tape, hw.output, hw.size, hw.other, hw.blk⟩
                  refine ⟨.slice (some ⟨ab, 0, none⟩) 1 acap, ⟨i0.blk.keep hwd.chg (fun h => i0.own (by rw [h]; rfl)), ?_, i0.own⟩, hch.trans hwd.chg (fun _ h => h) (fun j hj h => by have := hfr ab (.inr rfl); omega), hfr⟩
                  obtain ⟨hg, ha0, ha1⟩ := HG1.out
                  rw [← hg]
                  have hl := wlen_one ha0 ha1
                  exact .inr ⟨ab, acap, by rw [hl], by rw [hl]; omega, a2', hwd.wb a3', by rw [hl]; exact hwd.rd⟩
                have hGl : wlen (Nat.gcd X Y) ≤ 10000 := hgl
                clear i0 hch hfr a3' a2' hgl hw
                have hset := hAA.set HZ.out.1 hGl
                have hneg : ((wr.drewN k).setCell ⟨ab, 0, none⟩ (.int .u64 (a : Nat))).cell? ⟨ba, oa, none⟩ = some (.bool sa) := by
                  obtain ⟨_, _, hc, _⟩ := hAA
                  exact hc.cell HZ.out.2.1.c0 (fun h => h)
                clear hAA
                go_wp2_with fail
                refine hset.mono ?_
                rintro e wf hg
                have he := hg.1
                subst he
                have HG := Lib.hid hg
                clear hg hset hneg
                go_wp2
                go_ret
                exact HG.out
              · have z1 : ((b : Int) != 0) = true := by rw [bne_iff_ne]; omega
                have z2 : ((b : Int) == 0) = false := beq_eq_false_iff_ne.2 (by omega)
                have HG1 := Lib.hid (And.intro hg (And.intro ha0 ha1))
                clear hg ha0 ha1
                go_wp2
                go_quiet (fail)
                go_wp2
                obtain ⟨hg, ha0, ha1⟩ := HG1.out
                have hml := Nat.mod_lt a (Nat.pos_of_ne_zero hb0)
                refine ⟨⟨b, a % b, _, rfl, by rw [Int.natCast_emod], hb1, by omega, hb0, by rw [gcd_step_nat]; exact hg, World.drewN_drewN _ _ _⟩, ?_⟩
                simp [intOf]; omega
end Go.Proofs.YtbnmgopobmiadaaGreatDoor
