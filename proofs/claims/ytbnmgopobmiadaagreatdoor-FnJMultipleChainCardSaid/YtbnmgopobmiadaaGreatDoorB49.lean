/- numValidate. -/
import Derived.Test.YtbnmgopobmiadaaGreatDoorB48
import Derived.Test.YtbnmgopobmiadaaGreatDoorA1

set_option linter.unusedSimpArgs false
set_option linter.unusedVariables false

namespace Go.Proofs.YtbnmgopobmiadaaGreatDoor
open Go.RowKit

set_option maxHeartbeats 4000000 in
set_option maxRecDepth 100000 in
theorem numValidate_none (vb sb : Nat) (s : ByteArray) (vl scp un errs p : Value) (w : World) (h : Vdm w vb (num s) vl (.pointer (some ⟨sb, 0, none⟩)) scp un errs) (hs : Sch w sb p (.pointer none)) :
    Calls Tryz.prog 64 #[.pointer (some ⟨vb, 0, none⟩), num s] w fun e w' => e = .returned (.tuple #[]) ∧ Chg (fun _ => False) w w' := by
  have hmf : ∀ (fn : Fn) (first cap : Array Value) (w : World), (Instr.makeFunc fn first cap).run Tryz.prog w = .ok (.func fn first cap) w := fun _ _ _ _ => rfl
  have k1 : Chg (fun _ => False) w ((w.alloc (.cells #[num s] 20)).alloc (.cells #[.pointer none] 35)) := ((Chg.refl (fun _ => False) w).alloc _).alloc _
  have hs2 := hs.keep k1 (fun h => h)
  have hv1 := h.keep ((Chg.refl (fun _ => False) w).alloc (.cells #[num s] 20)) (fun h => h)
  have c2 := hv1.c2
  have s53 := hs2.get 53 (v := .pointer none) rfl
  have s54 := hs2.get 54 (v := .pointer none) rfl
  have s55 := hs2.get 55 (v := .pointer none) rfl
  have s56 := hs2.get 56 (v := .pointer none) rfl
  have s57 := hs2.get 57 (v := .pointer none) rfl
  clear h hs k1 hs2 hv1
  unfold num at c2 s53 s54 s55 s56 s57 ⊢
  go_enter Tryz.func64, Tryz.ntmps64
  go_wp2
  go_quiet (fail)
  go_wp2
  go_quiet (fail)
  go_wp2
  go_quiet (fail)
  go_wp2
  go_quiet (fail)
  go_wp2
  go_end0
  exact ⟨rfl, (((Chg.refl (fun _ => False) w).alloc _).alloc _).drewN _⟩

/-- behind num() and Quo -/
def QuoMid (nb xb : Nat) (P Q : Nat) (w4 : World) (s7 : Value) (wd : World) : Prop :=
  ∃ (qb : Nat) (sg : Bool) (va vb : Value), s7 = .pointer (some ⟨qb, 0, none⟩) ∧ Rm wd qb sg va (P / Nat.gcd P Q) false vb (Q / Nat.gcd P Q) ∧ wd.cell? ⟨nb, 0, none⟩ = some (.pointer (some ⟨xb, 0, none⟩)) ∧ Chg (fun k => k = nb) w4 wd

theorem rat_quo {te : TypeId} {ve : Value} {w4 : World} {nb yb : Nat} {yneg : Bool} {yva yvb : Value} {Xa Xb Ya Yb : Nat} (hE : Env te ve w4) (hy : Rm w4 yb yneg yva Ya false yvb Yb) (hyn : ∀ k, RegR yb yva yvb k → k ≠ nb) (hnb : 12 ≤ nb)
    (h1 : Xa ≠ 0) (h2 : Xb ≠ 0) (h3 : Ya ≠ 0) (h4 : Yb ≠ 0) (l1 : wlen Xa ≤ 14) (l2 : wlen Xb ≤ 11) (l3 : wlen Ya ≤ 14) (l4 : wlen Yb ≤ 11) :
    ∀ (W : World) (Z xb : Nat) (xneg : Bool) (xva xvb : Value), Row4 W Z (.bool false) (.slice none 0 0) (.bool false) (.slice none 0 0) → Rm W xb xneg xva Xa false xvb Xb → Chg (fun k => k = nb) w4 W → xb ≠ Z → w4.heap.size ≤ Z →
      Calls Tryz.prog 117 #[.pointer (some ⟨Z, 0, none⟩), .pointer (some ⟨xb, 0, none⟩), .pointer (some ⟨yb, 0, none⟩)] W (Quod Z (Xa * Yb) (Ya * Xb) W) := by
  intro W Z xb xneg xva xvb hz hx hc hxz hZ
  have hE2 := hE.keep hc (fun k hk h => by have h1 : k = nb := h; omega)
  have hy2 := hy.keep hc (fun k hk h => hyn k hk h)
  have hyl := hy.lt yb (.inl rfl)
  have hb12 := hE.big
  have m1 : wlen (Xa * Yb) < 40 := by
    have := wlen_le (Nat.lt_of_lt_of_le (lt_pow_mul (lt_wlen Xa) (lt_wlen Yb)) (Nat.pow_le_pow_right B_pos (Nat.le_refl _)))
    omega
  have m2 : wlen (Ya * Xb) < 40 := by
    have := wlen_le (Nat.lt_of_lt_of_le (lt_pow_mul (lt_wlen Ya) (lt_wlen Xb)) (Nat.pow_le_pow_right B_pos (Nat.le_refl _)))
    omega
  exact ratQuo Z xb yb xneg false yneg false xva xvb yva yvb Xa Xb Ya Yb W hz hx hy2 hxz (by omega) h1 h2 h3 h4 (by omega) (by omega) (by omega) (by omega) m1 m2 hE2.g3 hE2.g7 (by omega)

/-- a new Rat's block -/
def zRat : Obj := .cells #[.bool false, .slice none 0 0, .bool false, .slice none 0 0] 86
/-- what Quo is known to do, wherever the first Rat lies -/
def QuoOk (nb yb X x Ya Yb : Nat) (w4 : World) : Prop :=
  ∀ (W : World) (Z xb : Nat) (xneg : Bool) (xva xvb : Value), Row4 W Z (.bool false) (.slice none 0 0) (.bool false) (.slice none 0 0) → Rm W xb xneg xva X false xvb x → Chg (fun k => k = nb) w4 W → xb ≠ Z → w4.heap.size ≤ Z →
      Calls Tryz.prog 117 #[.pointer (some ⟨Z, 0, none⟩), .pointer (some ⟨xb, 0, none⟩), .pointer (some ⟨yb, 0, none⟩)] W (Quod Z (X * Yb) (Ya * x) W)
def QuoPost (nb xb P Q : Nat) (w4 : World) (e : Ending) (wd : World) : Prop := ∃ qb sg va vb, e = .returned (.pointer (some ⟨qb, 0, none⟩)) ∧ Rm wd qb sg va (P / Nat.gcd P Q) false vb (Q / Nat.gcd P Q) ∧ wd.cell? ⟨nb, 0, none⟩ = some (.pointer (some ⟨xb, 0, none⟩)) ∧ Chg (fun k => k = nb) w4 wd
theorem quo_post {nb Z xb P Q : Nat} {w4 W wd : World} {e : Ending} (h : Quod Z P Q W e wd) (hnx : W.cell? ⟨nb, 0, none⟩ = some (.pointer (some ⟨xb, 0, none⟩))) (hc : Chg (fun k => k = nb) w4 W) (hZ : w4.heap.size ≤ Z) (hnb : nb < w4.heap.size) : QuoPost nb xb P Q w4 e wd := by
  obtain ⟨rfl, sg, va, vb, hm, hc2⟩ := h
  refine ⟨Z, sg, va, vb, rfl, hm, hc2.cell hnx (fun h => by have h1 : nb = Z := h; omega), hc.trans hc2 (fun _ h => h) (fun k hk h => by have h1 : k = Z := h; omega)⟩
theorem quoA {nb yb X x Ya Yb xb n : Nat} {w4 wx : World} {xneg : Bool} {xva xvb : Value} (HQ : QuoOk nb yb X x Ya Yb w4) (hm : Rm wx xb xneg xva X false xvb x) (hr : ∀ k, RegR xb xva xvb k → ((w4.drewN n).alloc zRat).heap.size ≤ k)
    (hnx : wx.cell? ⟨nb, 0, none⟩ = some (.pointer (some ⟨xb, 0, none⟩))) (hc : Chg (fun k => k = nb) ((w4.drewN n).alloc zRat) wx) (hnb : nb < w4.heap.size) :
    Calls Tryz.prog 117 #[.pointer (some ⟨w4.heap.size, 0, none⟩), .pointer (some ⟨xb, 0, none⟩), .pointer (some ⟨yb, 0, none⟩)] wx (QuoPost nb xb (X * Yb) (Ya * x) w4) := by
  have c1 : Chg (fun k => k = nb) w4 wx := (((Chg.refl (fun k => k = nb) w4).drewN n).alloc zRat).trans hc (fun _ h => h) (fun _ _ h => h)
  have h1 := hr xb (.inl rfl)
  have h2 : ((w4.drewN n).alloc zRat).heap.size = w4.heap.size + 1 := alloc_size _ _
  exact (HQ wx w4.heap.size xb xneg xva xvb ((Row4.new (w4.drewN n)).keep hc (fun h => by have h3 : w4.heap.size = nb := h; omega)) hm c1 (by omega) (Nat.le_refl _)).mono fun e wd h => quo_post h hnx c1 (Nat.le_refl _) hnb
theorem quoB {nb yb X x Ya Yb xb n : Nat} {w4 wx : World} {xneg : Bool} {xva xvb : Value} (HQ : QuoOk nb yb X x Ya Yb w4) (hm : Rm wx xb xneg xva X false xvb x)
    (hnx : wx.cell? ⟨nb, 0, none⟩ = some (.pointer (some ⟨xb, 0, none⟩))) (hc : Chg (fun k => k = nb) (w4.drewN n) wx) (hnb : nb < w4.heap.size) :
    Calls Tryz.prog 117 #[.pointer (some ⟨wx.heap.size, 0, none⟩), .pointer (some ⟨xb, 0, none⟩), .pointer (some ⟨yb, 0, none⟩)] (wx.alloc zRat) (QuoPost nb xb (X * Yb) (Ya * x) w4) := by
  have c0 := hc.undrewN
  have c1 : Chg (fun k => k = nb) w4 (wx.alloc zRat) := c0.alloc zRat
  have h1 := hm.lt xb (.inl rfl)
  have h2 := c0.size
  have k1 : Chg (fun _ => False) wx (wx.alloc zRat) := (Chg.refl (fun _ => False) wx).alloc zRat
  exact (HQ (wx.alloc zRat) wx.heap.size xb xneg xva xvb (Row4.new wx) (hm.keep k1 (fun _ _ h => h)) c1 (by omega) h2).mono fun e wd h => quo_post h (k1.cell hnx (fun h => h)) c1 h2 hnb

theorem sch_ne {w : World} {vb sb : Nat} {v vl sch scp un errs p q : Value} (h : Vdm w vb v vl sch scp un errs) (hs : Sch w sb p q) : sb ≠ vb := by
  rintro rfl
  unfold Sch at hs
  unfold Vdm at h
  rw [h] at hs
  have h1 := congrArg (fun o => match o with | some (Obj.cells c _ _) => c.size | _ => 0) hs
  have h2 : (sch60 p q).size = 66 := rfl
  simp [h2] at h1
theorem noted_mono {vb sb pb ub : Nat} {s : ByteArray} {vl k : Value} {w W w' : World} {e : Ending} (hc : Chg (fun _ => False) w W) (h : Noted vb sb pb ub s vl k W e w') : Noted vb sb pb ub s vl k w e w' := by
  obtain ⟨g, cap, N, vl2, he, n1, n2, n3, n4, n5, n6⟩ := h
  have hs := hc.size
  exact ⟨g, cap, N, vl2, he, n1, n2, by omega, by omega, n5, hc.trans n6 (fun _ h => h.elim) (fun _ _ h => h)⟩
set_option maxRecDepth 100000 in
theorem num_again (nb xb : Nat) (v : Value) (w : World) (h : w.cell? ⟨nb, 0, none⟩ = some (.pointer (some ⟨xb, 0, none⟩))) : Calls Tryz.prog 116 #[.pointer (some ⟨nb, 0, none⟩), v] w fun e w' => e = .returned (.pointer (some ⟨xb, 0, none⟩)) ∧ w = w' := by
  go_enter Tryz.func116, Tryz.ntmps116
  go_wp2
  go_ret
  exact ⟨rfl, rfl⟩

set_option maxHeartbeats 16000000 in
set_option maxRecDepth 100000 in
theorem numValidate_mul (vb sb pb ub yb b c : Nat) (s : ByteArray) (neg yneg : Bool) (P Q Ya Yb : Nat) (yva yvb : Value) (te : TypeId) (ve : Value) (w : World)
    (h : Vdm w vb (num s) (.slice (some ⟨b, 0, none⟩) 0 c) (.pointer (some ⟨sb, 0, none⟩)) (.pointer (some ⟨pb, 0, none⟩)) (.pointer (some ⟨ub, 0, none⟩)) (.slice none 0 0)) (hs : Sch w sb (.pointer none) (.pointer (some ⟨yb, 0, none⟩)))
    (hy : Rm w yb yneg yva Ya false yvb Yb) (h3 : Ya ≠ 0) (h4 : Yb ≠ 0) (l3 : wlen Ya ≤ 14) (l4 : wlen Yb ≤ 11) (hN : NumOf s neg P Q) (hE : Env te ve w) (hq : EofEq te ve) :
    Calls Tryz.prog 64 #[.pointer (some ⟨vb, 0, none⟩), num s] w fun e w' => (mulB (P / Nat.gcd P Q) (Q / Nat.gcd P Q) Ya Yb = true ∧ e = .returned (.tuple #[]) ∧ Chg (fun _ => False) w w') ∨ (mulB (P / Nat.gcd P Q) (Q / Nat.gcd P Q) Ya Yb = false ∧ ∃ kv, Noted vb sb pb ub s (.slice (some ⟨b, 0, none⟩) 0 c) (.iface 306 kv) w e w') := by
  have hmf : ∀ (fn : Fn) (first cap : Array Value) (w : World), (Instr.makeFunc fn first cap).run Tryz.prog w = .ok (.func fn first cap) w := fun _ _ _ _ => rfl
  obtain ⟨w4, hw4⟩ : ∃ w4, w4 = (w.alloc (.cells #[num s] 20)).alloc (.cells #[.pointer none] 35) := ⟨_, rfl⟩
  have k0 : Chg (fun _ => False) w (w.alloc (.cells #[num s] 20)) := (Chg.refl (fun _ => False) w).alloc _
  have k1 : Chg (fun _ => False) w w4 := by rw [hw4]; exact k0.alloc _
  have hs2 := hs.keep k1 (fun h => h)
  have hv2 := h.keep k1 (fun h => h)
  have c2 := (h.keep k0 (fun h => h)).c2
  have s53 := hs2.get 53 (v := .pointer none) rfl
  have s54 := hs2.get 54 (v := .pointer none) rfl
  have s55 := hs2.get 55 (v := .pointer none) rfl
  have s56 := hs2.get 56 (v := .pointer none) rfl
  have s57 := hs2.get 57 (v := .pointer (some ⟨yb, 0, none⟩)) rfl
  have hvcell : w4.cell? ⟨w.heap.size, 0, none⟩ = some (num s) := by
    rw [hw4]
    refine ((Chg.refl (fun _ => False) _).alloc _).cell (a := ⟨w.heap.size, 0, none⟩) ?_ (fun h => h)
    rw [World.cell?_alloc_at _ _ _ _ rfl]; rfl
  have hncell : w4.heap[w.heap.size + 1]? = some (.cells #[.pointer none] 35 (0, 0)) := by
    have h1 := heap_alloc_new (w.alloc (.cells #[num s] 20)) (.cells #[.pointer none] 35)
    rw [alloc_size] at h1
    rw [hw4]; exact h1
  have hsz4 : w4.heap.size = w.heap.size + 2 := by rw [hw4, alloc_size, alloc_size]
  have hy4 := hy.keep k1 (fun k _ h => h)
  have hyl := hy.lt
  have hp := hN.pos
  have hd := div_gcd_ne hp.1 hp.2.1
  have hw1 := wlen_div_le P (Nat.gcd P Q)
  have hw2 := wlen_div_le Q (Nat.gcd P Q)
  have hE4 := hE.keep k1 (fun _ _ h => h)
  have hnum : ∀ W, Chg (fun _ => False) w4 W → Calls Tryz.prog 116 #[.pointer (some ⟨w.heap.size + 1, 0, none⟩), .pointer (some ⟨w.heap.size, 0, none⟩)] W (Num1 (P / Nat.gcd P Q) (Q / Nat.gcd P Q) (w.heap.size + 1) W) := fun W hW =>
    num_first (w.heap.size + 1) w.heap.size s neg P Q te ve W ((hW.keep _ (by omega) (fun h => h)).trans hncell) (hW.cell hvcell (fun h => h)) hN (hE4.keep hW (fun _ _ h => h)) hq
  have hquo := rat_quo (nb := w.heap.size + 1) hE4 hy4 (fun k hk => by have := hyl k hk; omega) (by have := hE.big; omega) hd.1 hd.2 h3 h4 (by omega) (by omega) l3 l4
  obtain ⟨nb, hnb⟩ : ∃ nb, nb = w.heap.size + 1 := ⟨_, rfl⟩
  rw [← hnb] at hnum hquo hncell
  have HN := Lib.hid hnum
  have HQ := Lib.hid hquo
  have HH := Lib.hid (And.intro h (And.intro hs (And.intro k1 (And.intro hv2 (And.intro hs2 (And.intro hsz4 (And.intro hnb (And.intro hd (And.intro hE.big (And.intro hw1 hw2))))))))))
  obtain ⟨X, hX⟩ : ∃ X, X = P / Nat.gcd P Q := ⟨_, rfl⟩
  obtain ⟨x, hx⟩ : ∃ x, x = Q / Nat.gcd P Q := ⟨_, rfl⟩
  rw [← hX, ← hx] at HQ HN ⊢
  have HX := Lib.hid (And.intro hX (And.intro hx (And.intro hp (And.intro h3 h4))))
  have HL := Lib.hid (And.intro l3 l4)
  clear h hs k1 hs2 hv2 hvcell hncell hsz4 hy4 hyl hp hd hw1 hw2 hE4 hnum hquo hX hx hy h3 h4 l3 l4 hN hE hq k0
  unfold num at c2 s53 s54 s55 s56 s57 hw4 ⊢
  go_enter Tryz.func64, Tryz.ntmps64
  go_wp2
  rw [← hw4, ← hnb]
  clear hw4 hnb c2
  go_quiet (fail)
  go_wp2
  go_quiet (fail)
  go_wp2
  go_quiet (fail)
  go_wp2
  go_quiet (fail)
  have hsbn : sb ≠ nb := by
    obtain ⟨_, a1, _, _, _, a2, a3, _⟩ := HH.out
    have := a1.lt
    omega
  have hnb4 : nb < w4.heap.size := by
    obtain ⟨_, a1, _, _, _, a2, a3, _⟩ := HH.out
    omega
  have a57 : (w4.alloc zRat).cell? ⟨sb, 57, none⟩ = some (.pointer (some ⟨yb, 0, none⟩)) := ((Chg.refl (fun _ => False) w4).alloc _).cell s57 (fun h => h)
  unfold zRat at a57
  go_upto_region 13 with (fail)
  go_cut [7] from 122 to 129 (fun s7 wd => ∃ xb, QuoMid nb xb (X * Yb) (Ya * x) w4 s7 wd)
  case first =>
    go_region_held3 (fun w' => w'.cell? ⟨sb, 57, none⟩ = some (.pointer (some ⟨yb, 0, none⟩))) (go_keep)
      (first
        | (go_at_call 116; refine (HN.out _ (by first | exact (Chg.refl _ w4).drewN _ | exact ((Chg.refl _ w4).drewN _).alloc _)).mono ?_; rintro e wx ⟨xb, xneg, xva, xvb, rfl, hmx, hrx, hnx, hcx⟩; have dx := hcx.cell (a := ⟨sb, 57, none⟩) (v := .pointer (some ⟨yb, 0, none⟩)) (by first | exact s57 | exact a57) hsbn)
        | (go_at_call 117; first | (refine (quoA HQ.out hmx hrx hnx hcx hnb4).mono ?_; rintro e wd ⟨qb, sg, qa, qv, rfl, hq1, hq2, hq3⟩; have dq := hq3.cell (a := ⟨sb, 57, none⟩) s57 hsbn) | (refine (quoB HQ.out hmx hnx hcx hnb4).mono ?_; rintro e wd ⟨qb, sg, qa, qv, rfl, hq1, hq2, hq3⟩; have dq := hq3.cell (a := ⟨sb, 57, none⟩) s57 hsbn)))
    all_goals
      go_wp2
      go_meet
      case rel => exact ⟨xb, qb, sg, qa, qv, rfl, hq1, hq2, hq3⟩
  case rest =>
    obtain ⟨xb, qb, sg, qa, qv, rfl, hq1, hq2, hq3⟩ := hcut
    obtain ⟨hX, hx, hp, hYa, hYb⟩ := HX.out
    obtain ⟨h, hs, k1, hv2, hs2, hsz4, hnb, hd, hbig, hw1, hw2⟩ := HH.out
    have hX0 : X ≠ 0 := by rw [hX]; exact hd.1
    have hx0 : x ≠ 0 := by rw [hx]; exact hd.2
    have hQ0 : Ya * x ≠ 0 := Nat.mul_ne_zero hYa hx0
    have hP0 : X * Yb ≠ 0 := Nat.mul_ne_zero hX0 hYb
    have hint := ratIsInt qb sg false qa qv _ _ wc hq1 (div_gcd_ne hP0 hQ0).2 (by
      have h5 := wlen_div_le (Ya * x) (Nat.gcd (X * Yb) (Ya * x))
      have h6 := wlen_le (Nat.lt_of_lt_of_le (lt_pow_mul (lt_wlen Ya) (lt_wlen x)) (Nat.pow_le_pow_right B_pos (Nat.le_refl _)))
      have h7 : wlen x ≤ 11 := by rw [hx]; omega
      have h8 := HL.out.1
      omega)
    obtain ⟨d, hdd⟩ : ∃ d, d = mulB X x Ya Yb := ⟨_, rfl⟩
    have hdd' : decide (Ya * x / Nat.gcd (X * Yb) (Ya * x) = 1) = d := hdd.symm
    rw [hdd'] at hint
    have kc : Chg (fun _ => False) w wc := k1.trans hq3 (fun _ h => h) (fun k hk h => by have h9 : k = nb := h; omega)
    have d57 := hq3.cell (a := ⟨sb, 57, none⟩) s57 hsbn
    have HI := Lib.hid hint
    have HC := Lib.hid (And.intro kc (And.intro hdd (And.intro h hs)))
    clear hX hx hp hYa hYb h hs k1 hv2 hs2 hsz4 hnb hd hbig hw1 hw2 hX0 hx0 hQ0 hP0 hint hdd hdd' kc hq1
    go_wp2_with fail
    refine HI.out.mono ?_
    rintro e w6 ⟨rfl, hc6⟩
    have e57 := hc6.cell (a := ⟨sb, 57, none⟩) d57 (fun h => h)
    have e2 := hc6.cell (a := ⟨nb, 0, none⟩) hq2 (fun h => h)
    have K6 := Lib.hid (HC.out.1.trans hc6 (U := fun _ => False) (fun _ h => h) (fun _ _ h => h))
    clear HI hc6 d57 hq2 hq3
    cases d
    · have hvd : ∀ n, Vdm ((w6.drewN n).alloc (.cells #[.pointer (some ⟨xb, 0, none⟩), .pointer (some ⟨yb, 0, none⟩)] 307)) vb (num s) (.slice (some ⟨b, 0, none⟩) 0 c) (.pointer (some ⟨sb, 0, none⟩)) (.pointer (some ⟨pb, 0, none⟩)) (.pointer (some ⟨ub, 0, none⟩)) (.slice none 0 0) := fun n => HC.out.2.2.1.keep ((K6.out.drewN n).alloc _) (fun h => h)
      have hsd : ∀ n, Sch ((w6.drewN n).alloc (.cells #[.pointer (some ⟨xb, 0, none⟩), .pointer (some ⟨yb, 0, none⟩)] 307)) sb (.pointer none) (.pointer (some ⟨yb, 0, none⟩)) := fun n => HC.out.2.2.2.keep ((K6.out.drewN n).alloc _) (fun h => h)
      have hadd := fun n => addError_any vb b c sb pb ub 306 s _ _ (.pointer (some ⟨w6.heap.size, 0, none⟩)) _ (hvd n) (hsd n)
      have hsv := sch_ne HC.out.2.2.1 HC.out.2.2.2
      have s57' := fun n => (hsd n).get 57 (v := .pointer (some ⟨yb, 0, none⟩)) rfl
      have HA := Lib.hid hadd
      have HS := Lib.hid s57'
      clear hvd hsd hadd s57'
      go_upto_region 15 with (fail)
      go_region_held3 (fun w' => w'.cell? ⟨sb, 57, none⟩ = some (.pointer (some ⟨yb, 0, none⟩))) (go_keep)
        (first
          | (go_at_call 116; refine (num_again nb xb _ _ (by exact e2)).mono ?_; rintro e w' ⟨rfl, rfl⟩)
          | (go_at_call 108; refine (HA.out _).mono ?_; rintro e w9 ⟨g, cap, N, vl2, rfl, n1, n2, n3, n4, n5, n6⟩; have d9 := n6.cell (a := ⟨sb, 57, none⟩) (HS.out _) hsv))
      all_goals
        have HF := Lib.hid (noted_mono ((K6.out.drewN _).alloc _) ⟨g, cap, N, vl2, rfl, n1, n2, n3, n4, n5, n6⟩)
        clear n1 n2 n3 n4 n5 n6 d9
        go_wp2
        go_end0
        exact .inr ⟨HC.out.2.1.symm, _, HF.out⟩
    · go_wp2
      go_end0
      exact .inl ⟨HC.out.2.1.symm, rfl, K6.out⟩
end Go.Proofs.YtbnmgopobmiadaaGreatDoor

/- (*validator).validate where multipleOf alone is asked. -/
namespace Go.Proofs.YtbnmgopobmiadaaGreatDoor
open Go.RowKit

/-- the validator's memory, whole -/
structure Vall (w : World) (vb sb pb ub b c : Nat) (s : ByteArray) (p q : Value) : Prop where
  vd : Vdm w vb (num s) (.slice (some ⟨b, 0, none⟩) 0 c) (.pointer (some ⟨sb, 0, none⟩)) (.pointer (some ⟨pb, 0, none⟩)) (.pointer (some ⟨ub, 0, none⟩)) (.slice none 0 0)
  sc : Sch w sb p q
  sp : Scp w pb (.pointer (some ⟨sb, 0, none⟩))
/-- what validate hands back: no error, or one -/
def Vd33 (ok : Bool) (ub vb : Nat) (w : World) (e : Ending) (w' : World) : Prop :=
  (ok = true ∧ e = .returned (.tuple #[.pointer (some ⟨ub, 0, none⟩), .nilIface]) ∧ Chg (fun k => k = vb) w w') ∨
  (ok = false ∧ ∃ N vl kt kv, e = .returned (.tuple #[.pointer none, .iface 107 (.pointer (some ⟨N, 0, none⟩))]) ∧ w'.heap[N]? = some (.cells #[.string ⟨#[]⟩, vl, .iface kt kv, .slice none 0 0] 113 (0, 0)) ∧ kt ≠ 108 ∧ Chg (fun k => k = vb) w w')

set_option maxHeartbeats 16000000 in
set_option maxRecDepth 100000 in
theorem validate_mul (vb sb pb ub yb b c : Nat) (s : ByteArray) (neg yneg : Bool) (P Q Ya Yb : Nat) (yva yvb : Value) (te : TypeId) (ve : Value) (w : World)
    (h : Vall w vb sb pb ub b c s (.pointer none) (.pointer (some ⟨yb, 0, none⟩)))
    (hy : Rm w yb yneg yva Ya false yvb Yb) (h3 : Ya ≠ 0) (h4 : Yb ≠ 0) (l3 : wlen Ya ≤ 14) (l4 : wlen Yb ≤ 11) (hN : NumOf s neg P Q) (hE : Env te ve w) (hq : EofEq te ve) :
    Calls Tryz.prog 33 #[.pointer (some ⟨vb, 0, none⟩)] w (Vd33 (mulB (P / Nat.gcd P Q) (Q / Nat.gcd P Q) Ya Yb) ub vb w) := by
  have hnv := numValidate_mul vb sb pb ub yb b c s neg yneg P Q Ya Yb yva yvb te ve w h.vd h.sc hy h3 h4 l3 l4 hN hE hq
  have c0 := h.vd.c0
  have c2 := h.vd.c2
  have c3 := h.vd.c3
  have s9 := h.sc.get 9 (v := .pointer none) rfl
  have s17 := h.sc.get 17 (v := .pointer none) rfl
  have s19 := h.sc.get 19 (v := .pointer none) rfl
  have s18 := h.sc.get 18 (v := .pointer none) rfl
  have s27 := h.sc.get 27 (v := .pointer none) rfl
  have s11 := h.sc.get 11 (v := .pointer none) rfl
  have hck := fun w' h => checkCycle_top pb (.pointer (some ⟨sb, 0, none⟩)) w' h
  have hto := fun w' => typeOf_num s w'
  have h54 := fun w => as54 s w
  have h58 := fun w => as58 s w
  have h9 := fun w => as9 s w
  have h37 := fun w => as37 s w
  obtain ⟨ok, hok⟩ : ∃ ok, ok = mulB (P / Nat.gcd P Q) (Q / Nat.gcd P Q) Ya Yb := ⟨_, rfl⟩
  rw [← hok] at hnv ⊢
  have HN := Lib.hid hnv
  have HH := Lib.hid h
  have HT := Lib.hid hto
  have HK := Lib.hid (hck w h.sp)
  clear hnv h hy h3 h4 l3 l4 hN hE hq hok hto hck
  unfold num at c0 HT HN
  go_enter Tryz.func33, Tryz.ntmps33
  go_wp2_with fail
  refine HK.out.mono ?_
  rintro e w' ⟨rfl, rfl⟩
  go_wp2_with fail
  refine (HT.out _).mono ?_
  rintro e w' ⟨rfl, rfl⟩
  go_wp2_with fail
  refine HN.out.mono ?_
  rintro e w2 (⟨hok, rfl, hc⟩ | ⟨hok, kv, g, cap, N, vl2, rfl, n1, n2, n3, n4, n5, n6⟩)
  · have hv2 := HH.out.vd.keep hc (fun h => h)
    have hs2 := HH.out.sc.keep hc (fun h => h)
    have d5 := hv2.c5
    have d2 := hv2.c2
    have d4 := hv2.c4
    have t7 := hs2.get 7 (v := .int .i64 2020) rfl
    have hr := validateRefs_none vb sb _ _ _ _ _ _ _ w2 hv2 hs2
    have hcd := condValidate_none vb sb _ _ _ _ _ _ _ w2 hv2 hs2
    have hu := unevalValidate_none vb sb s _ _ _ _ w2 hv2
    have HF : Hid (Vd33 ok ub vb w (.returned (.tuple #[.pointer (some ⟨ub, 0, none⟩), .nilIface])) w2) := Lib.hid (.inl ⟨hok, rfl, hc.mono (fun _ _ h => h.elim)⟩)
    have HR := Lib.hid hr
    have HC := Lib.hid hcd
    have HU := Lib.hid hu
    clear hv2 hs2 hc hok hr hcd hu HN HK HT
    go_wp2_with fail
    refine HR.out.mono ?_
    rintro e w' ⟨rfl, rfl⟩
    go_wp2_with fail
    refine HC.out.mono ?_
    rintro e w' ⟨rfl, rfl⟩
    go_wp2_with fail
    refine HU.out.mono ?_
    rintro e w' ⟨rfl, rfl⟩
    go_wp2
    go_ret2
    exact HF.out
  · have hs2 := HH.out.sc.keep n6 (sch_ne HH.out.vd HH.out.sc)
    have d5 := n1.c5
    have d2 := n1.c2
    have d6 := n1.c6
    have t7 := hs2.get 7 (v := .int .i64 2020) rfl
    have hr := validateRefs_none vb sb _ _ _ _ _ _ _ w2 n1 hs2
    have hcd := condValidate_none vb sb _ _ _ _ _ _ _ w2 n1 hs2
    have hu := unevalValidate_none vb sb s _ _ _ _ w2 n1
    have HF : Hid (∀ n, Vd33 ok ub vb w (.returned (.tuple #[.pointer none, .iface 107 (.pointer (some ⟨N, 0, none⟩))])) (w2.drewN n)) := Lib.hid (fun n => .inr ⟨hok, N, vl2, 306, kv, rfl, n5, by decide, n6.drewN n⟩)
    have HR := Lib.hid hr
    have HC := Lib.hid hcd
    have HU := Lib.hid hu
    clear n1 hs2 n6 n3 n4 n5 hok hr hcd hu HN HK HT
    go_wp2_with fail
    refine HR.out.mono ?_
    rintro e w' ⟨rfl, rfl⟩
    go_wp2_with fail
    refine HC.out.mono ?_
    rintro e w' ⟨rfl, rfl⟩
    go_wp2_with fail
    refine HU.out.mono ?_
    rintro e w' ⟨rfl, rfl⟩
    go_wp2
    go_quiet (fail)
    go_wp2
    go_ret2
    exact HF.out _
end Go.Proofs.YtbnmgopobmiadaaGreatDoor
