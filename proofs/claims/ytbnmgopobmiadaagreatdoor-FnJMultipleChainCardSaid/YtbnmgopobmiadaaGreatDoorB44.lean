/- Rat.SetString at a decimal that is not 0: the walk. -/
import Derived.Test.YtbnmgopobmiadaaGreatDoorB43

set_option linter.unusedSimpArgs false
set_option linter.unusedVariables false

namespace Go.Proofs.YtbnmgopobmiadaaGreatDoor
open Go.RowKit

theorem natFive' (w : World) : Calls Tryz.prog 45 #[] w fun e w' => ∃ v, e = .returned v ∧ Nv w' v 5 ∧ Chg (fun _ => False) w w' ∧ (∀ k, v.ownBlock = some k → w.heap.size ≤ k) :=
  (natFive w).mono fun e w' ⟨he, hw⟩ => by
    subst hw
    exact ⟨_, he, Nv.new w 5 (by omega) (by unfold B; omega), (Chg.refl _ w).alloc _, fun k hk => by simp [Value.ownBlock] at hk; omega⟩
theorem setWordNew (m : Nat) (hm : m < B) (w : World) : Calls Tryz.prog 46 #[.slice none 0 0, .int .u64 m] w fun e w' => ∃ v, e = .returned v ∧ Nv w' v m ∧ Chg (fun _ => False) w w' ∧ (∀ k, v.ownBlock = some k → w.heap.size ≤ k) :=
  (setWord_any (.slice none 0 0) m w (.inl rfl) hm).mono fun e w' ⟨v, he, hv, hc, ho⟩ => ⟨v, he, hv, hc.mono (fun k _ h => by simp [Value.ownBlock] at h), fun k hk => by
    rcases ho k hk with h | h
    · simp [Value.ownBlock] at h
    · omega⟩

theorem pow_end {w7 wa wb wp : World} {vp : Value} (c1 : Chg (fun _ => False) w7.drew wa) (c2 : Chg (fun _ => False) wa wb) (c3 : Chg (fun _ => False) wb wp) (hp : ∀ k, vp.ownBlock = some k → wb.heap.size ≤ k) :
    Chg (fun _ => False) w7 wp ∧ ∀ k, vp.ownBlock = some k → w7.heap.size ≤ k := by
  have c := c1.undrew.trans c2 (U := fun _ => False) (fun _ h => h) (fun _ _ h => h)
  refine ⟨c.trans c3 (fun _ h => h) (fun _ _ h => h), fun k hk => ?_⟩
  have h1 := hp k hk
  have h2 := c.size
  omega
theorem scanSign_dec (b : Nat) (s : ByteArray) (i n : Nat) (dot : Option Nat) (E : Int) (p : Int) (eof : Value) (w : World) (h : Rdr w b s 0 p) (hD : Dec s i n dot E) (hE : w.cell? ⟨0, 0, none⟩ = some eof) (hb : b ≠ 0) :
    Calls Tryz.prog 40 #[rdv b] w fun e w' => e = .returned (.tuple #[.bool (decide (i = 1)), .nilIface]) ∧ Rdr w' b s i (-1) ∧ Chg (fun k => k = b) w w' := by
  have hsz := hD.size
  have hm := hD.mant.size
  have hp := hD.mant.pos
  have h0 : 0 < s.size := by omega
  have hb0 : (s[0]'h0).toNat = byt s 0 := byt_in h0
  rcases hD.sign with ⟨rfl, h1⟩ | ⟨rfl, h1⟩
  · have hc : s[0] ≠ 45 := fun e => h1 (by rw [← hb0, e]; rfl)
    have hc2 : s[0] ≠ 43 := fun e => by
      have h2 : byt s 0 = 43 := by rw [← hb0, e]; rfl
      have h3 := hD.mant.byte 0 hp
      rw [Nat.add_zero] at h3
      omega
    exact scanSign_none b s 0 p eof w h h0 (by omega) hE hb hc hc2
  · have hc : s[0] = 45 := UInt8.toNat_inj.1 (by rw [hb0, h1]; rfl)
    exact scanSign_minus b s 0 p eof w h h0 (by omega) hE hb hc

theorem Dec.slash {s : ByteArray} {i n : Nat} {dot : Option Nat} {E : Int} (h : Dec s i n dot E) : ∀ q, q < s.size → byt s q ≠ 47 := by
  intro q hq
  by_cases h1 : q < i
  · rcases h.sign with ⟨h2, _⟩ | ⟨h2, h3⟩
    · omega
    · have : q = 0 := by omega
      subst this; omega
  · by_cases h2 : q < i + n
    · have h3 := h.mant.byte (q - i) (by omega)
      rw [show i + (q - i) = q by omega] at h3
      omega
    · rcases h.expo with ⟨h3, _⟩ | ⟨p, h3, h4, h5, h6, h7, h8⟩
      · omega
      · by_cases h9 : p ≤ q
        · have := h8 q h9 hq; omega
        · rcases h5 with ⟨h10, _⟩ | ⟨h10, h11⟩
          · have : q = i + n := by omega
            subst this; omega
          · by_cases h12 : q = i + n
            · subst h12; omega
            · have : q = i + n + 1 := by omega
              subst this; omega

set_option maxHeartbeats 16000000 in
set_option maxRecDepth 100000 in
theorem setString (b : Nat) (s : ByteArray) (i n : Nat) (dot : Option Nat) (E : Int) (te : TypeId) (ve : Value) (w : World) (hz : Row4 w b (.bool false) (.slice none 0 0) (.bool false) (.slice none 0 0)) (hD : Dec s i n dot E) (hN : numTo s i n ≠ 0)
    (hE : w.cell? ⟨0, 0, none⟩ = some (.iface te ve))
    (heq : ∀ w, (binOp .eql 62 (.iface te ve) (.iface te ve)).run Tryz.prog w = .ok (.bool true) w) (hne : ∀ w, (binOp .eql 62 .nilIface (.iface te ve)).run Tryz.prog w = .ok (.bool false) w)
    (hnq : ∀ w, (binOp .neq 62 (.iface te ve) (.iface te ve)).run Tryz.prog w = .ok (.bool false) w) (hb : 12 ≤ b)
    (hG3 : w.cell? ⟨3, 0, none⟩ = some (.int .i64 40)) (hG4 : w.cell? ⟨4, 0, none⟩ = some (.int .i64 12)) (hG5 : w.cell? ⟨5, 0, none⟩ = some (.int .i64 80)) (hG7 : w.cell? ⟨7, 0, none⟩ = some (.int .i64 40)) :
    Calls Tryz.prog 31 #[.pointer (some ⟨b, 0, none⟩), .string s] w (SetS b (decide (i = 1)) (decP (numTo s i n) (fexp s i n dot + E)) (decQ (fexp s i n dot + E)) w) := by
  have hsz := hD.size
  have hmn := hD.mant.size
  have hmp := hD.mant.pos
  have hzz := zzIndex_none s w (by omega) hD.slash
  have h0 : ((s.size : Int) == 0) = false := beq_eq_false_iff_ne.2 (by omega)
  have hbl := hz.lt
  have HZ := Lib.hid (And.intro hz (And.intro hD (And.intro hN (And.intro hE (And.intro hG3 (And.intro hG4 (And.intro hG5 hG7)))))))
  clear hz hD hN hE hG3 hG4 hG5 hG7
  go_enter_defers Tryz.func31, Tryz.ntmps31
  go_wp2_with fail
  refine hzz.mono ?_
  rintro e w' ⟨rfl, rfl⟩
  clear hzz
  go_wp2_with fail
  refine (newReader s w).mono ?_
  rintro e w1 ⟨rfl, hr1, c1⟩
  obtain ⟨rb, hrb⟩ : ∃ rb, rb = w.heap.size := ⟨_, rfl⟩
  rw [← hrb] at hr1 ⊢
  have hrb0 : rb ≠ 0 := by omega
  have hss := scanSign_dec rb s i n dot E (-1) (.iface te ve) w1 hr1 HZ.out.2.1 (c1.cell HZ.out.2.2.2.1 (fun h => h)) hrb0
  unfold rdv at hss
  generalize decide (i = 1) = neg at *
  have HR := Lib.hid (And.intro c1 hrb)
  clear hr1 c1 hrb
  go_wp2_with fail
  refine hss.mono ?_
  rintro e w2 ⟨rfl, hr2, c2⟩
  have hbr : b ≠ rb := by have := HR.out.2; omega
  have k2 : Chg (fun k => k = rb) w w2 := HR.out.1.trans c2 (fun _ h => h.elim) (fun _ _ h => h)
  have hz2 := HZ.out.1.keep k2 hbr
  have z1 := hz2.c1
  have hsc := natScan rb s i n dot (-1) te ve w2 HZ.out.2.1.mant hr2 (by omega) (k2.cell HZ.out.2.2.2.1 (fun h => hrb0 h.symm)) heq hne hrb0
  unfold rdv at hsc
  have H2 := Lib.hid (And.intro k2 hz2)
  clear hss c2 k2 hz2
  go_wp2_with fail
  refine hsc.mono ?_
  rintro e w3 ⟨v, rfl, hv, hr3, c3, ho⟩
  obtain ⟨va, vc, rfl⟩ := hv.shape
  obtain ⟨nl, hnl⟩ : ∃ x, x = wlen (numTo s i n) := ⟨_, rfl⟩
  rw [← hnl] at hv ho ⊢
  have hz3 := H2.out.2.keep c3 hbr
  have y1 := hz3.c1
  have y2 := hz3.frozen 1
  have hz4 := hz3.set1 (.slice va nl vc)
  have xc1 := hz4.c1
  have k3 : Chg (fun k => k = b) w (w3.setCell ⟨b, 1, none⟩ (.slice va nl vc)) := by
    refine (H2.out.1.trans c3 (U := fun k => k = b ∨ k = rb) (fun k h => .inr h) (fun k _ h => .inr h)).setCell (a := ⟨b, 1, none⟩) (fun _ => .inl rfl) _ |>.mono (fun k hk h => ?_)
    have := HR.out.2
    rcases h with h | h
    · exact h
    · omega
  have hv4 : Nv (w3.setCell ⟨b, 1, none⟩ (.slice va nl vc)) (.slice va nl vc) (numTo s i n) := hv.keep ((Chg.refl (fun k => k = b) w3).setCell (a := ⟨b, 1, none⟩) (fun _ => rfl) _) (fun k hk e => by
    have h1 : k = b := e
    have h2 := ho k hk
    have h3 := H2.out.1.size
    omega)
  have hrl2 : rb < w2.heap.size := by
    obtain ⟨e, h⟩ := hr2
    exact (Array.getElem?_eq_some_iff.1 h).1
  have ho4 : ∀ k, (Value.slice va nl vc).ownBlock = some k → w.heap.size ≤ k ∧ k ≠ rb := fun k hk => by
    have h2 := ho k hk
    have h3 := H2.out.1.size
    exact ⟨by omega, by omega⟩
  have hr4 : Rdr (w3.setCell ⟨b, 1, none⟩ (.slice va nl vc)) rb s (i + n) (-1) := hr3.keep ((Chg.refl (fun k => k = b) w3).setCell (a := ⟨b, 1, none⟩) (fun _ => rfl) _) (fun h => hbr h.symm)
  have hse := scanExp rb s (i + n) E (-1) te ve (w3.setCell ⟨b, 1, none⟩ (.slice va nl vc)) hr4 (by omega) HZ.out.2.1.expo (k3.cell HZ.out.2.2.2.1 (fun h => by have h1 : 0 = b := h; omega)) heq hrb0
  unfold rdv at hse
  have H3 := Lib.hid (And.intro k3 (And.intro hv4 (And.intro ho4 (And.intro hz4 hnl))))
  have HSE := Lib.hid hse
  clear hsc hv hr3 c3 ho hz3 hz4 k3 hv4 ho4 hr4 hse z1 hnl hr2 hrl2
  go_wp2_with fail
  refine HSE.out.mono ?_
  rintro e w5 ⟨rfl, hr5, c5⟩
  have k5 : Chg (fun k => k = b ∨ k = rb) w w5 := H3.out.1.trans c5 (fun k h => .inl h) (fun k _ h => .inr h)
  have hrd := readByte rb s s.size (-1) (.iface te ve) w5 hr5 (Nat.le_refl _) (by omega) (k5.cell HZ.out.2.2.2.1 (fun h => by
    have h1 : 0 = b ∨ 0 = rb := h
    omega)) hrb0
  have H5 := Lib.hid c5
  clear hr5 c5 k5 HSE
  go_wp2_with fail
  refine hrd.mono ?_
  rintro e w6 ⟨c6, ⟨hi6, rfl, hr6⟩ | ⟨_, rfl, hr6⟩⟩
  case inl => omega
  have k6 : Chg (fun k => k = b ∨ k = rb) w w6 := (H3.out.1.trans H5.out (U := fun k => k = b ∨ k = rb) (fun k h => .inl h) (fun k _ h => .inr h)).trans c6 (fun k h => h) (fun k _ h => .inr h)
  have hE6 := k6.cell HZ.out.2.2.2.1 (fun h => by
    have h1 : 0 = b ∨ 0 = rb := h
    omega)
  have hz6 := (H3.out.2.2.2.1.keep H5.out hbr).keep c6 hbr
  have z6 := hz6.c1
  have H6 := Lib.hid (And.intro k6 (And.intro c6 hz6))
  clear k6 c6 hz6 hrd hr6
  have hnz : ((nl : Int) == 0) = false := by
    refine beq_eq_false_iff_ne.2 ?_
    have h1 := H3.out.2.2.2.2
    have h2 := mt wlen_eq_zero.1 HZ.out.2.2.1
    omega
  obtain ⟨fc, hfc⟩ : ∃ x, x = fcount s i n dot := ⟨_, rfl⟩
  obtain ⟨f, hf⟩ : ∃ x, x = fexp s i n dot := ⟨_, rfl⟩
  have hfb := fexp_bound (s := s) (i := i) (n := n) (dot := dot) (by omega)
  have hff : f = if fc < 0 then fc else 0 := by rw [hf, hfc]; rfl
  rw [← hf, ← hfc] at hfb
  rw [← hf, ← hfc]
  obtain ⟨f1, f2, f3, f4⟩ := hfb
  have HF := Lib.hid (And.intro hff (And.intro hf hfc))
  clear hff hf hfc
  go_upto_if 140 with (fail)
  go_cut [18, 19, 20] from 140 to 157 (fun s18 s19 s20 wc => s18 = .int .i64 f ∧ s19 = .int .i64 f ∧ wc = w6)
  case first =>
    by_cases hn : fc < 0
    · have hd : decide (fc < 0) = true := decide_eq_true hn
      go_wp2
      go_meet
      case rel =>
        rw [HF.out.1, if_pos hn]
        exact ⟨rfl, rfl, rfl⟩
    · have hd : decide (fc < 0) = false := decide_eq_false hn
      go_wp2
      go_meet
      case rel =>
        rw [HF.out.1, if_neg (by omega)]
        exact ⟨rfl, rfl, rfl⟩
  case rest =>
    obtain ⟨rfl, rfl, rfl⟩ := hcut
    have hEb := HZ.out.2.1.expo.bound
    obtain ⟨e1, e2⟩ := hEb
    go_wp2_with fail
    refine (getStack _).mono ?_
    rintro e w7 ⟨rfl, hS, c7, hsz7⟩
    obtain ⟨x, hx⟩ : ∃ x, x = f + E := ⟨_, rfl⟩
    rw [← hx]
    have x1 : -200 ≤ x := by omega
    have x2 : x ≤ 200 := by omega
    have hfx : f + E = x := hx.symm
    obtain ⟨sk, hsk⟩ : ∃ q, q = wc.heap.size := ⟨_, rfl⟩
    rw [← hsk] at hS ⊢
    have HS : Hid (ZS w b sk (.slice va nl vc) (.slice none 0 0) (numTo s i n) 0 w7) := by
      have hw := H6.out.1.size
      have k6 : Chg (fun k => k = b) w wc := H6.out.1.mono (fun k hk h => by
        have h1 : k = b ∨ k = rb := h
        have := HR.out.2
        omega)
      have hv6 := (H3.out.2.1.keep H5.out (fun k hk e => (H3.out.2.2.1 k hk).2 e)).keep H6.out.2.1 (fun k hk e => (H3.out.2.2.1 k hk).2 e)
      refine Lib.hid ⟨hbl, by omega, H6.out.2.2.keep c7 (fun h => h), hv6.keep c7 (fun _ _ h => h), .inl ⟨rfl, rfl⟩, fun k hk => (H3.out.2.2.1 k hk).1, fun k hk => by simp [Value.ownBlock] at hk, fun k _ hk => by simp [Value.ownBlock] at hk, hS, fun e => ?_, fun hk => by simp [Value.ownBlock] at hk, k6.trans c7 (fun _ h => h) (fun _ _ h => h.elim)⟩
      have := hv6.lt sk e
      omega
    have hxx : fexp s i n dot + E = x := by rw [← HF.out.2.1]; exact hfx
    have hxx' := hxx
    have HG : Hid (w7.cell? ⟨3, 0, none⟩ = some (.int .i64 40) ∧ w7.cell? ⟨4, 0, none⟩ = some (.int .i64 12) ∧ w7.cell? ⟨5, 0, none⟩ = some (.int .i64 80) ∧ w7.cell? ⟨7, 0, none⟩ = some (.int .i64 40)) := by
      obtain ⟨_, _, _, _, g3, g4, g5, g7⟩ := HZ.out
      have c := HS.out.ch
      exact Lib.hid ⟨c.cell g3 (fun h => by have h1 : 3 = b := h; omega), c.cell g4 (fun h => by have h1 : 4 = b := h; omega), c.cell g5 (fun h => by have h1 : 5 = b := h; omega), c.cell g7 (fun h => by have h1 : 7 = b := h; omega)⟩
    clear H2 H3 H5 H6 HR HF hfx hxx hS c7 hsz7 hx hsk hE6 z6 hnz y1 y2 e1 e2 f1 f2 f3 f4 xc1
    have hN3 : wlen (numTo s i n) ≤ 3 := by
      have hM := HZ.out.2.1.mant
      have h1 := numTo_lt s i n (fun q hq => by have := hM.byte q hq; omega)
      have h2 : 10 ^ n ≤ 10 ^ 40 := Nat.pow_le_pow_right (by omega) (by omega)
      have h3 : (10 : Nat) ^ 40 < B ^ 3 := by unfold B; decide
      exact wlen_le (by omega)
    have hN0 := HZ.out.2.2.1
    have H7 := Lib.hid HZ.out.2.2.2.2.2.2.2
    obtain ⟨N, hN⟩ : ∃ N, N = numTo s i n := ⟨_, rfl⟩
    rw [← hN] at HS hN3 hN0 ⊢
    have HN := Lib.hid (And.intro hN3 hN0)
    have HXN := Lib.hid (And.intro hxx' hN)
    clear HZ hN hN3 hN0 hxx'
    go_upto_if 173 with (fail)
    go_cut [22, 23] from 172 to 237 (fun s22 s23 wd => ∃ v1 v2, ZS w b sk v1 v2 (N * 5 ^ x.toNat) (5 ^ (-x).toNat) wd)
    case first =>
      have hx3 : x = 0 ∨ (∃ m : Nat, 1 ≤ m ∧ m ≤ 200 ∧ x = m) ∨ (∃ m : Nat, 1 ≤ m ∧ m ≤ 200 ∧ x = -(m : Int)) := by
        rcases Int.lt_trichotomy x 0 with h | h | h
        · exact .inr (.inr ⟨(-x).toNat, by omega, by omega, by omega⟩)
        · exact .inl h
        · exact .inr (.inl ⟨x.toNat, by omega, by omega, by omega⟩)
      rcases hx3 with rfl | ⟨m, m1, m2, rfl⟩ | ⟨m, m1, m2, rfl⟩
      · have hset := setWord_any (.slice none 0 0) 1 w7 (.inl rfl) one_lt_B
        have hz3 := HS.out.row.c3
        go_wp2_with fail
        refine hset.mono ?_
        rintro e w8 ⟨v, rfl, hv, hc, ho⟩
        obtain ⟨ra, rc, rfl⟩ := hv.shape
        have hZ := HS.out.setb hv hc (fun k hk => (ho k hk).imp id (fun h => by omega))
        have hr := HS.out.row.keep hc (fun h => by simp [Value.ownBlock] at h)
        have r3 := hr.c3
        have r33 := hr.frozen 3
        have HZ2 := Lib.hid hZ
        clear hset hv hc ho hZ hr
        go_wp2
        go_meet
        case rel => exact ⟨_, _, by simpa using HZ2.out⟩
      · have hmB : m < B := by unfold B; omega
        have hz3 := HS.out.row.c3
        have q1 : ¬ (m : Int) < 0 := by omega
        have q2 : ((m : Int) != 0) = true := by
          rw [bne_iff_ne]; omega
        have q3 : ¬ (1000000 : Int) < m := by omega
        have hwu : IntKind.u64.wrap (m : Int) = (m : Int) := by rw [IntKind.wrap_u64]; omega
        go_upto_region 67 with (fail)
        go_cut [23] from 172 to 193 (fun s23 wd => ∃ v, v = s23 ∧ Nv wd v (5 ^ m) ∧ Chg (fun _ => False) w7 wd ∧ ∀ k, v.ownBlock = some k → w7.heap.size ≤ k)
        case first =>
          obtain ⟨g3, g4, g5, g7⟩ := HG.out
          go_region_held3 (fun w' => w'.cell? ⟨b, 3, none⟩ = some (.slice none 0 0)) (go_keep)
            (first
              | (go_at_call 45; refine (natFive' _).mono ?_; rintro e wa ⟨v5, rfl, h5, c5, o5⟩; have d5 := c5.cell (a := ⟨b, 3, none⟩) (v := .slice none 0 0) (by first | exact dn | exact hz3) (fun h => h))
              | (go_at_call 46; refine (setWordNew m hmB _).mono ?_; rintro e wb ⟨vn, rfl, hn, cn, on⟩; have dn := cn.cell (a := ⟨b, 3, none⟩) (v := .slice none 0 0) (by first | exact d5 | exact hz3) (fun h => h))
              | (go_at_call 44; refine (expNN5 ⟨sk, 0, none⟩ v5 vn m _ (by first | exact h5 | exact h5.keepF cn) (by first | exact hn | exact hn.keepF c5) m1 m2 (by first | exact cn.cell (c5.cell g3 (fun h => h)) (fun h => h) | exact c5.cell (cn.cell g3 (fun h => h)) (fun h => h)) (by first | exact cn.cell (c5.cell g4 (fun h => h)) (fun h => h) | exact c5.cell (cn.cell g4 (fun h => h)) (fun h => h)) (by first | exact cn.cell (c5.cell g5 (fun h => h)) (fun h => h) | exact c5.cell (cn.cell g5 (fun h => h)) (fun h => h))).mono ?_; rintro e wp ⟨vp, rfl, hp, cp, pn⟩; have dp := cp.cell (a := ⟨b, 3, none⟩) (v := .slice none 0 0) (by first | exact dn | exact d5) (fun h => h); have kp := by first | exact pow_end c5 cn cp pn | exact pow_end cn c5 cp pn))
          all_goals
            go_wp2
            go_meet
            case rel => exact ⟨vp, rfl, hp, kp.1, kp.2⟩
        case rest =>
          obtain ⟨vp, rfl, hp, hcp, hop⟩ := hcut
          have hs7 := hcp.size
          have hZ := HS.out.keepF hcp
          have hoff : Off (fun k => (Value.slice va nl vc).ownBlock = some k) vp := fun k h1 h2 => by
            have := hop k h1
            have := HS.out.na.lt k h2
            omega
          have hN8 : wlen (N * 5 ^ m) ≤ 11 := by
            refine wlen_le (Nat.lt_of_lt_of_le (lt_pow_mul (lt_wlen _) (lt_wlen _)) (Nat.pow_le_pow_right B_pos ?_))
            have := HN.out.1
            have := five_pow_lt m2
            omega
          have hmul := fun q => mul_any (.slice va nl vc) (.pointer (some ⟨sk, 0, none⟩)) (.slice va nl vc) vp N (5 ^ m) (wc.drewN q) hZ.na.st hZ.na hp (by have := HN.out.1; omega) (by have := five_pow_lt m2; omega) (hcp.cell HG.out.1 (fun h => h)) (.inr ⟨rfl, hoff⟩)
          have hz1 := hZ.row.c1
          have H8 := Lib.hid (And.intro hZ (And.intro hN8 (And.intro hcp (And.intro hop hs7))))
          have HM := Lib.hid hmul
          clear hZ hN8 hcp hop hs7 hmul hp hoff hz3
          go_upto_region 69 with (fail)
          go_cut [] from 172 to 212 (fun wd => ∃ v1, ZS w b sk v1 (.slice none 0 0) (N * 5 ^ m) 0 wd)
          case first =>
            refine wp_region_noPanic ?_
            go_region_with (go_at_call 47; refine (HM.out _).mono ?_; rintro e w9 ⟨v9, rfl, h9, c9, o9⟩; obtain ⟨ra, rc, rfl⟩ := h9.shape; have r9 := H8.out.1.row.keep c9.undrewN H8.out.1.oab; have d9 := r9.c1; have f9 := r9.frozen 1)
            all_goals
              have hZ2 := H8.out.1.seta h9 c9.undrewN o9
              have HZ2 := Lib.hid hZ2
              clear hZ2 h9 c9 o9 r9
              refine NoPanic.normal ?_
              go_wp2
              go_meet
              case rel => exact ⟨_, HZ2.out⟩
          case rest =>
            obtain ⟨v1, hZ1⟩ := hcut
            have hset := setWord_any (.slice none 0 0) 1 wc (.inl rfl) one_lt_B
            have hz3 := hZ1.row.c3
            have H9 := Lib.hid hZ1
            clear hZ1 H8 HM
            go_wp2_with fail
            refine hset.mono ?_
            rintro e w8 ⟨v, rfl, hv, hc, ho⟩
            obtain ⟨ra, rc, rfl⟩ := hv.shape
            have hZ := H9.out.setb hv hc (fun k hk => (ho k hk).imp id (fun h => by omega))
            have hr := H9.out.row.keep hc (fun h => by simp [Value.ownBlock] at h)
            have r3 := hr.c3
            have r33 := hr.frozen 3
            have HZ2 := Lib.hid hZ
            clear hset hv hc ho hZ hr
            go_wp2
            go_meet
            case rel =>
              have e1 : (-(m : Int)).toNat = 0 := by omega
              rw [Int.toNat_natCast, e1, Nat.pow_zero]
              exact ⟨v1, _, HZ2.out⟩
      · have hmB : m < B := by unfold B; omega
        have hz3 := HS.out.row.c3
        have q1 : -(m : Int) < 0 := by omega
        have q2 : (-(m : Int) != 0) = true := by
          rw [bne_iff_ne]; omega
        have q3 : ¬ (1000000 : Int) < m := by omega
        have q4 : ¬ (m : Int) < 0 := by omega
        have q5 : ¬ (0 : Int) < -(m : Int) := by omega
        have hwu : IntKind.u64.wrap (m : Int) = (m : Int) := by rw [IntKind.wrap_u64]; omega
        go_upto_region 67 with (fail)
        go_cut [23] from 172 to 193 (fun s23 wd => ∃ v, v = s23 ∧ Nv wd v (5 ^ m) ∧ Chg (fun _ => False) w7 wd ∧ ∀ k, v.ownBlock = some k → w7.heap.size ≤ k)
        case first =>
          obtain ⟨g3, g4, g5, g7⟩ := HG.out
          go_region_held3 (fun w' => w'.cell? ⟨b, 3, none⟩ = some (.slice none 0 0)) (go_keep)
            (first
              | (go_at_call 45; refine (natFive' _).mono ?_; rintro e wa ⟨v5, rfl, h5, c5, o5⟩; have d5 := c5.cell (a := ⟨b, 3, none⟩) (v := .slice none 0 0) (by first | exact dn | exact hz3) (fun h => h))
              | (go_at_call 46; refine (setWordNew m hmB _).mono ?_; rintro e wb ⟨vn, rfl, hn, cn, on⟩; have dn := cn.cell (a := ⟨b, 3, none⟩) (v := .slice none 0 0) (by first | exact d5 | exact hz3) (fun h => h))
              | (go_at_call 44; refine (expNN5 ⟨sk, 0, none⟩ v5 vn m _ (by first | exact h5 | exact h5.keepF cn) (by first | exact hn | exact hn.keepF c5) m1 m2 (by first | exact cn.cell (c5.cell g3 (fun h => h)) (fun h => h) | exact c5.cell (cn.cell g3 (fun h => h)) (fun h => h)) (by first | exact cn.cell (c5.cell g4 (fun h => h)) (fun h => h) | exact c5.cell (cn.cell g4 (fun h => h)) (fun h => h)) (by first | exact cn.cell (c5.cell g5 (fun h => h)) (fun h => h) | exact c5.cell (cn.cell g5 (fun h => h)) (fun h => h))).mono ?_; rintro e wp ⟨vp, rfl, hp, cp, pn⟩; have dp := cp.cell (a := ⟨b, 3, none⟩) (v := .slice none 0 0) (by first | exact dn | exact d5) (fun h => h); have kp := by first | exact pow_end c5 cn cp pn | exact pow_end cn c5 cp pn))
          all_goals
            go_wp2
            go_meet
            case rel => exact ⟨vp, rfl, hp, kp.1, kp.2⟩
        case rest =>
          obtain ⟨vp, rfl, hp, hcp, hop⟩ := hcut
          obtain ⟨ra, rc, rfl⟩ := hp.shape
          have hZ := HS.out.keepF hcp
          have hs7 := hcp.size
          have hZ2 := hZ.setbN hp (fun k hk => Nat.le_trans HS.out.ch.size (hop k hk)) (fun k hk e => by
            have h1 := hop k hk
            have h2 := HS.out.na.lt k e
            omega) (fun e => by
            have h1 := hop sk e
            have h2 := HS.out.skl
            omega)
          have r3 := hZ.row.c3
          have r33 := hZ.row.frozen 3
          have HZ2 := Lib.hid hZ2
          clear hZ hZ2 hp hcp hop hz3
          go_wp2
          go_meet
          case rel =>
            have e1 : (-(m : Int)).toNat = 0 := by omega
            have e2 : (- -(m : Int)).toNat = m := by omega
            rw [e1, e2, Nat.pow_zero, Nat.mul_one]
            exact ⟨_, _, HZ2.out⟩
    case rest =>
      obtain ⟨v1, v2, hZ⟩ := hcut
      have HZ5 := Lib.hid hZ
      clear hZ
      have q1 : ¬ x < -10000000 := by omega
      have q2 : ¬ (10000000 : Int) < x := by omega
      go_upto_if 245 with (fail)
      go_cut [] from 238 to 282 (fun wd => ∃ v1 v2, ZS w b sk v1 v2 (decP N x) (decQ x) wd)
      case first =>
        have hx3 : x = 0 ∨ (∃ m : Nat, 1 ≤ m ∧ m ≤ 200 ∧ x = m) ∨ (∃ m : Nat, 1 ≤ m ∧ m ≤ 200 ∧ x = -(m : Int)) := by
          rcases Int.lt_trichotomy x 0 with h | h | h
          · exact .inr (.inr ⟨(-x).toNat, by omega, by omega, by omega⟩)
          · exact .inl h
          · exact .inr (.inl ⟨x.toNat, by omega, by omega, by omega⟩)
        rcases hx3 with rfl | ⟨m, m1, m2, rfl⟩ | ⟨m, m1, m2, rfl⟩
        · go_wp2
          go_meet
          case rel => exact ⟨v1, v2, by simpa [decP, decQ] using HZ5.out⟩
        · have q3 : (0 : Int) < m := by omega
          have hwu : IntKind.u64.wrap (m : Int) = (m : Int) := by rw [IntKind.wrap_u64]; omega
          have hl := HZ5.out
          rw [Int.toNat_natCast] at hl
          have hX0 : N * 5 ^ m ≠ 0 := Nat.mul_ne_zero HN.out.2 (five_pow_ne m)
          have hXl : wlen (N * 5 ^ m) ≤ 11 := by
            refine wlen_le (Nat.lt_of_lt_of_le (lt_pow_mul (lt_wlen _) (lt_wlen _)) (Nat.pow_le_pow_right B_pos ?_))
            have := HN.out.1
            have := five_pow_lt m2
            omega
          have hlsh := fun q => lsh_self v1 (N * 5 ^ m) m (wc.drewN q) hl.na hX0 (by omega) (by omega) (by omega)
          obtain ⟨aa, ac, rfl⟩ := hl.na.shape
          generalize wlen (N * 5 ^ m) = la at *
          have hz1 := hl.row.c1
          have HM := Lib.hid hlsh
          have HL := Lib.hid hl
          clear hlsh hl hX0 hXl HZ5
          go_upto_region 76 with (fail)
          refine wp_region_noPanic ?_
          go_region_with (go_at_call 48; refine (HM.out _).mono ?_; rintro e w9 ⟨v9, rfl, h9, c9, o9⟩; obtain ⟨ra, rc, rfl⟩ := h9.shape; have r9 := HL.out.row.keep c9.undrewN HL.out.oab; have d9 := r9.c1; have f9 := r9.frozen 1)
          all_goals
            have hZ2 := HL.out.seta h9 c9.undrewN o9
            have HZ2 := Lib.hid hZ2
            clear hZ2 h9 c9 o9 r9
            refine NoPanic.normal ?_
            go_wp2
            go_meet
            case rel =>
              have e1 : (-(m : Int)).toNat = 0 := by omega
              have e2 : decP N m = N * 5 ^ m * 2 ^ m := by unfold decP; rw [Int.toNat_natCast, Nat.mul_assoc, ← Nat.mul_pow]
              have e3 : decQ m = 5 ^ (-(m : Int)).toNat := by unfold decQ; rw [e1]
              rw [e2, e3]
              exact ⟨_, _, HZ2.out⟩
        · have q3 : ¬ (0 : Int) < -(m : Int) := by omega
          have q4 : -(m : Int) < 0 := by omega
          have hwu : IntKind.u64.wrap (m : Int) = (m : Int) := by rw [IntKind.wrap_u64]; omega
          have hl := HZ5.out
          have hwi : IntKind.i64.wrap (m : Int) = (m : Int) := by rw [IntKind.wrap_i64]; omega
          have em : (- -(m : Int)).toNat = m := by omega
          rw [em] at hl
          have hXl : wlen (5 ^ m) ≤ 8 := five_pow_lt m2
          have hlsh := fun q => lsh_self v2 (5 ^ m) m (wc.drewN q) hl.nb (five_pow_ne m) (by omega) (by omega) (by omega)
          obtain ⟨aa, ac, rfl⟩ := hl.nb.shape
          generalize wlen (5 ^ m) = la at *
          have hz3 := hl.row.c3
          have HM := Lib.hid hlsh
          have HL := Lib.hid hl
          clear hlsh hl hXl HZ5 em
          go_upto_region 78 with (fail)
          refine wp_region_noPanic ?_
          go_region_with (go_at_call 48; refine (HM.out _).mono ?_; rintro e w9 ⟨v9, rfl, h9, c9, o9⟩; obtain ⟨ra, rc, rfl⟩ := h9.shape; have r9 := HL.out.row.keep c9.undrewN HL.out.obb; have d9 := r9.c3; have f9 := r9.frozen 3)
          all_goals
            have hZ2 := HL.out.setb h9 c9.undrewN o9
            have HZ2 := Lib.hid hZ2
            clear hZ2 h9 c9 o9 r9
            refine NoPanic.normal ?_
            go_wp2
            go_meet
            case rel =>
              have e1 : (-(m : Int)).toNat = 0 := by omega
              have em : (- -(m : Int)).toNat = m := by omega
              have e2 : decP N (-(m : Int)) = N * 5 ^ (-(m : Int)).toNat := by unfold decP; rw [e1]
              have e3 : decQ (-(m : Int)) = 5 ^ m * 2 ^ m := by unfold decQ; rw [em, ← Nat.mul_pow]
              rw [e2, e3]
              exact ⟨_, _, HZ2.out⟩
      case rest =>
        obtain ⟨wA, hwA⟩ : ∃ x, x = wc := ⟨_, rfl⟩
        subst hwA
        obtain ⟨v3, v4, hZ⟩ := hcut
        have hP0 : decP N x ≠ 0 := Nat.mul_ne_zero HN.out.2 (Nat.pos_iff_ne_zero.1 (Nat.pow_pos (by omega)))
        have hQ0 : decQ x ≠ 0 := Nat.pos_iff_ne_zero.1 (Nat.pow_pos (by omega))
        obtain ⟨aa, ac, rfl⟩ := hZ.na.shape
        obtain ⟨la, hla⟩ : ∃ q, q = wlen (decP N x) := ⟨_, rfl⟩
        rw [← hla] at hZ
        have hlp : (0 : Int) < la := by have := mt wlen_eq_zero.1 hP0; omega
        have c0 := hZ.row.c0
        have c1 := hZ.row.c1
        have f0 := hZ.row.frozen 0
        have HL := Lib.hid (And.intro hZ (And.intro hP0 (And.intro hQ0 hla)))
        clear hZ hP0 hQ0 hla HZ5
        go_upto_region 79 with (fail)
        go_cut [] from 238 to 296 (fun wd => wd = wA.setCell ⟨b, 0, none⟩ (.bool neg))
        case first =>
          cases neg
          all_goals
            go_wp2
            go_meet
            case rel =>
              first
                | rfl
                | (rw [decide_eq_true (by omega : 0 < la)])
        case rest =>
          obtain rfl := hcut
          have hl10 : ∀ k, k ≤ 200 → wlen (10 ^ k) ≤ 11 := fun k hk => by
            refine wlen_le (Nat.lt_of_le_of_lt (Nat.pow_le_pow_right (by omega) hk) ?_)
            unfold B; decide
          have hPl : wlen (decP N x) < 40 := by
            have h1 := hl10 x.toNat (by omega)
            have h2 := HN.out.1
            have h3 : wlen (decP N x) ≤ 14 := wlen_le (Nat.lt_of_lt_of_le (lt_pow_mul (lt_wlen _) (lt_wlen _)) (Nat.pow_le_pow_right B_pos (by omega)))
            omega
          have hQl : wlen (decQ x) < 40 := by
            have h1 := hl10 (-x).toNat (by omega)
            unfold decQ; omega
          obtain ⟨hZ, hP0, hQ0, hla⟩ := HL.out
          have k1 : Chg (fun k => k = b) wA (wA.setCell ⟨b, 0, none⟩ (.bool neg)) := (Chg.refl (fun k => k = b) wA).setCell (a := ⟨b, 0, none⟩) (fun _ => rfl) _
          have hRm : Rm (wA.setCell ⟨b, 0, none⟩ (.bool neg)) b neg (.slice aa la ac) (decP N x) false v4 (decQ x) :=
            ⟨hZ.row.set0 _, hZ.na.keep k1 (fun k hk e => by have h1 : k = b := e; have := hZ.oa k hk; omega), hZ.nb.keep k1 (fun k hk e => by have h1 : k = b := e; have := hZ.ob k hk; omega), hZ.oab, hZ.obb, hZ.ab⟩
          have hg7 : w.cell? ⟨7, 0, none⟩ = some (.int .i64 40) := H7.out
          have h7l := World.block_lt_of_cell? w _ hg7
          have kb : Chg (fun k => k = b) w (wA.setCell ⟨b, 0, none⟩ (.bool neg)) := hZ.ch.trans k1 (fun _ h => h) (fun _ _ h => h)
          have hnorm := ratNorm b neg false (.slice aa la ac) v4 (decP N x) (decQ x) _ hRm hP0 hQ0 hPl hQl (kb.cell hg7 (fun h => by have h1 : 7 = b := h; omega)) (fun h => by
            have h1 : (7 : Nat) < w.heap.size := h7l
            rcases h with h | h | h
            · omega
            · have := hZ.oa 7 h; omega
            · have := hZ.ob 7 h; omega)
          have hst : Stk (wA.setCell ⟨b, 0, none⟩ (.bool neg)) sk 0 (fun k => k = sk) := hZ.st.keep k1 (fun k hk e => by have h1 : k = sk := hk; have h2 : k = b := e; have := hZ.sl; omega)
          have HS9 := Lib.hid (And.intro hst (And.intro kb (And.intro hZ.oa (And.intro hZ.ob (And.intro hZ.sl (And.intro hZ.sa hZ.sb))))))
          have HNm := Lib.hid hnorm
          clear hZ hP0 hQ0 hla k1 hRm hg7 h7l kb hst hPl hQl hl10 c0 c1 f0 hnorm HL
          go_wp2_with fail
          refine HNm.out.mono ?_
          rintro e w9 ⟨rfl, va', vb', m9, c9, o1, o2⟩
          have HM9 := Lib.hid (And.intro m9 (And.intro c9 (And.intro o1 o2)))
          clear m9 c9 o1 o2 HNm
          go_wp2
          obtain ⟨m9, c9, o1, o2⟩ := HM9.out
          obtain ⟨hst, kb, hoa, hob, hsl, hsa, hsb⟩ := HS9.out
          have s9 : Stk w9 sk 0 (fun k => k = sk) := hst.keep c9 (fun k hk h => by
            have h1 : k = sk := hk
            subst h1
            rcases h with h | h | h
            · omega
            · exact hsa h
            · exact hsb h)
          refine leaves_cons (f := 43) (args := #[.pointer (some ⟨sk, 0, none⟩)]) (by simp) (by simp [go_sem]) ?_
          refine (stack_free_d _ w9 sk 0 (fun k => k = sk) s9).mono ?_
          rintro e u' w10 ⟨rfl, hQ⟩
          have hfin : SetS b neg (decP N x) (decQ x) w (.returned (.tuple #[.pointer (some ⟨b, 0, none⟩), .bool true])) w10 := by
            refine ⟨rfl, va', vb', ⟨m9.blk.keep hQ.2.1 (fun e => by have h1 : b = sk := e; omega), m9.na.quiet hQ, m9.nb.quiet hQ, m9.oa, m9.ob, m9.ab⟩, ?_, fun k hk => ?_⟩
            · have q2 : Chg (fun k => k = b) w w9 := kb.trans c9 (fun _ h => h) (fun k hk h => by
                rcases h with h | h | h
                · exact h
                · have := hoa k h; omega
                · have := hob k h; omega)
              exact q2.trans hQ.2.1 (fun _ h => h) (fun k hk h => by have h1 : k = sk := h; omega)
            have hkb := kb.size
            rcases hk with h | h | h
            · exact .inl h
            · rcases o1 k h with h1 | h1
              · exact .inr (hoa k h1)
              · exact .inr (by omega)
            · rcases o2 k h with h1 | h1
              · exact .inr (hob k h1)
              · exact .inr (by omega)
          obtain rfl := hQ.1
          refine ⟨_, results_tmp2 rfl _ _ _, ?_⟩
          rw [HXN.out.1, ← HXN.out.2]
          exact hfin
end Go.Proofs.YtbnmgopobmiadaaGreatDoor
