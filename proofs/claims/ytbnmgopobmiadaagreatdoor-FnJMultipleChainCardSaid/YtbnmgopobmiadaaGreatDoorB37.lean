/- Contract of nat.scan on the mantissa of a decimal. -/
import Derived.Test.YtbnmgopobmiadaaGreatDoorB26

set_option linter.unusedSimpArgs false
set_option linter.unusedVariables false

namespace Go.Proofs.YtbnmgopobmiadaaGreatDoor
open Go.RowKit

theorem cnt_pos {s : ByteArray} {i n : Nat} {dot : Option Nat} (h : Mant s i n dot) : 0 < cntTo s i n := by
  have hp := h.pos
  have hf := h.first
  clear h
  induction n with
  | zero => omega
  | succ m ih =>
    unfold cntTo
    by_cases hm : m = 0
    · subst hm; rw [Nat.add_zero, if_neg hf]; omega
    · have := ih (by omega); split <;> omega

theorem results_tmp4 {fn : Func} {a b c d : Tmp} (h : fn.results = #[.tmp a, .tmp b, .tmp c, .tmp d]) (tmps : Array Value) (P : Program) (w : World) :
    (results fn tmps).run P w = .ok (.tuple #[tmps.getD a undef, tmps.getD b undef, tmps.getD c undef, tmps.getD d undef]) w := by
  simp [results, h]
/-- what scan hands back -/
def Scanned (s : ByteArray) (i n : Nat) (dot : Option Nat) (rb : Nat) (w : World) (e : Ending) (w' : World) : Prop :=
  ∃ v, e = .returned (.tuple #[v, .int .i64 10, .int .i64 (fcount s i n dot), .nilIface]) ∧ Nv w' v (numTo s i n) ∧ Rdr w' rb s (i + n) (-1) ∧ Chg (fun k => k = rb) w w' ∧ ∀ k, v.ownBlock = some k → w.heap.size ≤ k
theorem Scanned.of {s : ByteArray} {i n : Nat} {dot : Option Nat} {rb : Nat} {w w' : World} {v : Value} {c : Int} {e : Ending} (he : e = .returned (.tuple #[v, .int .i64 10, .int .i64 c, .nilIface])) (hc : c = fcount s i n dot) (h1 : Nv w' v (numTo s i n))
    (h2 : Rdr w' rb s (i + n) (-1)) (h3 : Chg (fun k => k = rb) w w') (h4 : ∀ k, v.ownBlock = some k → w.heap.size ≤ k) : Scanned s i n dot rb w e w' := ⟨v, by rw [← hc]; exact he, h1, h2, h3, h4⟩
theorem cntTo_mono (s : ByteArray) (i : Nat) {a b : Nat} (h : a ≤ b) : cntTo s i a ≤ cntTo s i b := by
  induction b with
  | zero => rw [show a = 0 by omega]; exact Nat.le_refl _
  | succ b ih =>
    by_cases h1 : a = b + 1
    · rw [h1]; exact Nat.le_refl _
    · have := ih (by omega)
      rw [show cntTo s i (b + 1) = if byt s (i + b) = 46 then cntTo s i b else cntTo s i b + 1 from rfl]
      split <;> omega
theorem Rdr.keep {S : Nat → Prop} {w w' : World} {b : Nat} {s : ByteArray} {i : Nat} {p : Int} (h : Rdr w b s i p) (hc : Chg S w w') (hs : ¬ S b) : Rdr w' b s i p := by
  obtain ⟨e, h⟩ := h
  have hl := (Array.getElem?_eq_some_iff.1 h).1
  exact ⟨e, (hc.keep b hl hs).trans h⟩
/-- scan's loop -/
def SL (s : ByteArray) (i n : Nat) (dot : Option Nat) (rb : Nat) (eof : Value) (w : World) (k : Nat) (s0 s3 s10 s11 s13 s14 s15 s20 s21 s22 : Value) (wr : World) : Prop :=
  ∃ (q Z kk di : Nat) (zv : Value) (pv : Int), q ≤ n ∧ n - q ≤ k ∧ SI s i q Z kk di ∧ zv = s0 ∧ Nv wr zv Z ∧ (∀ b, zv.ownBlock = some b → w.heap.size ≤ b) ∧ s3 = .bool (fo dot q) ∧ s10 = .int .i64 (cntTo s i q) ∧ s13 = .int .i32 pv ∧ (pv == 95) = false ∧ s14 = .bool false ∧
    s20 = .int .u64 di ∧ s21 = .int .i64 kk ∧ s22 = .int .i64 (dpq s i dot q) ∧ Chg (fun k => k = rb) w wr ∧
    ((i + q < s.size ∧ s11 = .nilIface ∧ s15 = .int .u8 (byt s (i + q)) ∧ Rdr wr rb s (i + q + 1) (-1)) ∨ (i + q = s.size ∧ n = q ∧ s11 = eof ∧ s15 = .int .u8 0 ∧ Rdr wr rb s (i + q) (-1)))

set_option maxHeartbeats 8000000 in
set_option maxRecDepth 100000 in
theorem natScan (rb : Nat) (s : ByteArray) (i n : Nat) (dot : Option Nat) (p : Int) (te : TypeId) (ve : Value) (w : World) (hM : Mant s i n dot) (h : Rdr w rb s i p) (hs : s.size ≤ 1000) (hE : w.cell? ⟨0, 0, none⟩ = some (.iface te ve))
    (heq : ∀ w, (binOp .eql 62 (.iface te ve) (.iface te ve)).run Tryz.prog w = .ok (.bool true) w) (hne : ∀ w, (binOp .eql 62 .nilIface (.iface te ve)).run Tryz.prog w = .ok (.bool false) w) (hrb : rb ≠ 0) :
    Calls Tryz.prog 37 #[.slice none 0 0, rdv rb, .int .i64 0, .bool true] w (Scanned s i n dot rb w) := by
  have hm := meth_read rb
  have hm2 := meth_unread rb
  have hrd := readByte rb s i p (.iface te ve) w h (by have := hM.size; omega) (by omega) hE hrb
  unfold rdv
  have hrl : rb < w.heap.size := by
    obtain ⟨e, h1⟩ := h
    exact (Array.getElem?_eq_some_iff.1 h1).1
  have HM := Lib.hid (And.intro hM (And.intro hE (And.intro hs hrl)))
  clear h hM hE hs hrl
  go_enter Tryz.func37, Tryz.ntmps37
  go_wp2_with fail
  refine hrd.mono ?_
  rintro e w1 ⟨hch, ⟨hi', rfl, hr⟩ | ⟨h0, _⟩⟩
  case inr => have := HM.out.1.size; have := HM.out.1.pos; omega
  case inl =>
    rw [byt_in hi']
    clear hrd
    have HR := Lib.hid (And.intro hr hch)
    clear hr hch
    have hbl : rb < w.heap.size := HM.out.2.2.2
    have hcs : (byt s i = 48 ∧ i + 1 < s.size) ∨ (byt s i = 48 ∧ i + 1 = s.size) ∨ byt s i ≠ 48 := by omega
    rcases hcs with ⟨hz, hl⟩ | ⟨hz, hl⟩ | hz
    case' inl =>
      have hz' : ((byt s i : Int) == 48) = true := by rw [hz]; rfl
      have hrd2 := readByte rb s (i + 1) (-1) (.iface te ve) w1 HR.out.1 (by omega) (by have := HM.out.2.2.1; omega) (HR.out.2.cell HM.out.2.1 (fun h => hrb h.symm)) hrb
      have hnb : byt s (i + 1) = 46 ∨ byt s (i + 1) = 101 ∨ byt s (i + 1) = 69 := by
        by_cases h1 : 1 < n
        · exact .inl (HM.out.1.zero hz h1)
        · have h2 : n = 1 := by have := HM.out.1.pos; omega
          have h3 := HM.out.1.stop (by omega)
          rw [h2] at h3; exact .inr h3
      obtain ⟨c2, hc2⟩ : ∃ c, c = byt s (i + 1) := ⟨_, rfl⟩
      have HB := Lib.hid hz
      go_wp2_with fail
      refine hrd2.mono ?_
      rintro e w2 ⟨hch2, ⟨hi2, rfl, hr2⟩ | ⟨h0, _⟩⟩
      case inr => omega
      rw [byt_in hi2, ← hc2]
      have e98 : ((c2 : Int) == 98) = false := beq_eq_false_iff_ne.2 (by omega)
      have e66 : ((c2 : Int) == 66) = false := beq_eq_false_iff_ne.2 (by omega)
      have e111 : ((c2 : Int) == 111) = false := beq_eq_false_iff_ne.2 (by omega)
      have e79 : ((c2 : Int) == 79) = false := beq_eq_false_iff_ne.2 (by omega)
      have e120 : ((c2 : Int) == 120) = false := beq_eq_false_iff_ne.2 (by omega)
      have e88 : ((c2 : Int) == 88) = false := beq_eq_false_iff_ne.2 (by omega)
      have HST : Hid (SL s i n dot rb (.iface te ve) w (n + 1) (.slice none 0 0) (.bool true) (.int .i64 1) .nilIface (.int .i32 48) (.bool false) (.int .u8 c2) (.int .u64 0) (.int .i64 0) (.int .i64 (-1)) w2) := by
        have hp := HM.out.1.pos
        have h1 : byt s (i + 0) ≠ 46 := HM.out.1.first
        have hpt : dot ≠ some 0 := fun e => h1 ((HM.out.1.point 0 hp).2 e)
        have hs1 : SI s i 1 0 0 0 := by
          refine ⟨?_, by simp, by omega⟩
          simp [numTo, HB.out]
        have hcn : cntTo s i 1 = 1 := by simp [cntTo, HB.out]
        have hd0 : dpq s i dot 0 = -1 := by unfold dpq; cases dot <;> simp
        have hf0 : fo dot 0 = true := by unfold fo; cases dot <;> simp
        refine Lib.hid ⟨1, 0, 0, 0, _, 48, hp, by omega, hs1, rfl, .inl ⟨rfl, rfl⟩, fun b hb => by simp [Value.ownBlock] at hb, by rw [fo_step hpt, hf0], by rw [hcn]; rfl, rfl, rfl, rfl, rfl, rfl, by rw [dpq_step hpt, hd0], HR.out.2.trans hch2 (fun _ h => h) (fun _ _ h => h), .inl ⟨by omega, rfl, by rw [← hc2], hr2⟩⟩
      clear hrd2 hnb hr2 hch2 hc2
      go_wp2_with fail
      refine (maxPow w2).mono ?_
      rintro e w' ⟨rfl, rfl⟩
      go_wp2
    case' inr.inl =>
      have hz' : ((byt s i : Int) == 48) = true := by rw [hz]; rfl
      have hrd2 := readByte rb s (i + 1) (-1) (.iface te ve) w1 HR.out.1 (by omega) (by have := HM.out.2.2.1; omega) (HR.out.2.cell HM.out.2.1 (fun h => hrb h.symm)) hrb
      have HB := Lib.hid hz
      go_wp2_with fail
      refine hrd2.mono ?_
      rintro e w2 ⟨hch2, ⟨hi2, rfl, hr2⟩ | ⟨h0, rfl, hr2⟩⟩
      case inl => omega
      have HST : Hid (SL s i n dot rb (.iface te ve) w (n + 1) (.slice none 0 0) (.bool true) (.int .i64 1) (.iface te ve) (.int .i32 48) (.bool false) (.int .u8 0) (.int .u64 0) (.int .i64 0) (.int .i64 (-1)) w2) := by
        have hp := HM.out.1.pos
        have hsz := HM.out.1.size
        have h1 : byt s (i + 0) ≠ 46 := HM.out.1.first
        have hpt : dot ≠ some 0 := fun e => h1 ((HM.out.1.point 0 hp).2 e)
        have hs1 : SI s i 1 0 0 0 := by
          refine ⟨?_, by simp, by omega⟩
          simp [numTo, HB.out]
        have hcn : cntTo s i 1 = 1 := by simp [cntTo, HB.out]
        have hd0 : dpq s i dot 0 = -1 := by unfold dpq; cases dot <;> simp
        have hf0 : fo dot 0 = true := by unfold fo; cases dot <;> simp
        refine Lib.hid ⟨1, 0, 0, 0, _, 48, hp, by omega, hs1, rfl, .inl ⟨rfl, rfl⟩, fun b hb => by simp [Value.ownBlock] at hb, by rw [fo_step hpt, hf0], by rw [hcn]; rfl, rfl, rfl, rfl, rfl, rfl, by rw [dpq_step hpt, hd0], HR.out.2.trans hch2 (fun _ h => h) (fun _ _ h => h), .inr ⟨by omega, by omega, rfl, rfl, hr2⟩⟩
      clear hrd2 hr2 hch2
      go_wp2_with fail
      refine (maxPow w2).mono ?_
      rintro e w' ⟨rfl, rfl⟩
      go_wp2
    case' inr.inr =>
      have hz' : ((byt s i : Int) == 48) = false := beq_eq_false_iff_ne.2 (by omega)
      obtain ⟨c2, hc2⟩ : ∃ c, c = byt s i := ⟨_, rfl⟩
      have HST : Hid (SL s i n dot rb (.iface te ve) w (n + 1) (.slice none 0 0) (.bool true) (.int .i64 0) .nilIface (.int .i32 46) (.bool false) (.int .u8 c2) (.int .u64 0) (.int .i64 0) (.int .i64 (-1)) w1) := by
        have hd0 : dpq s i dot 0 = -1 := by unfold dpq; cases dot <;> simp
        have hf0 : fo dot 0 = true := by unfold fo; cases dot <;> simp
        exact Lib.hid ⟨0, 0, 0, 0, _, 46, Nat.zero_le _, by omega, SI.start s i, rfl, .inl ⟨rfl, rfl⟩, fun b hb => by simp [Value.ownBlock] at hb, by rw [hf0], rfl, rfl, rfl, rfl, rfl, rfl, by rw [hd0], HR.out.2, .inl ⟨hi', rfl, by rw [hc2]; rfl, HR.out.1⟩⟩
      rw [← hc2] at hz' ⊢
      clear hc2
      go_wp2_with fail
      refine (maxPow w1).mono ?_
      rintro e w' ⟨rfl, rfl⟩
      go_wp2
    all_goals
      go_loopg [0, 3, 10, 11, 13, 14, 15, 20, 21, 22] (n + 1) (fun k s0 s3 s10 s11 s13 s14 s15 s20 s21 s22 wr => SL s i n dot rb (.iface te ve) w k s0 s3 s10 s11 s13 s14 s15 s20 s21 s22 wr)
      case atStart => exact HST.out
      case round =>
        obtain ⟨q, Z, kk, di, s0, pv, hq, hk, hSI, rfl, hNv, hown, rfl, rfl, rfl, hpv, rfl, rfl, rfl, rfl, hch, hend⟩ := hrel
        have hsz := HM.out.1.size
        have hs1000 := HM.out.2.2.1
        rcases hend with ⟨hin, rfl, rfl, hr⟩ | ⟨hin, rfl, rfl, rfl, hr⟩
        · by_cases hqn : q < n
          · have hrd' := readByte rb s (i + q + 1) (-1) (.iface te ve) wr hr (by omega) (by omega) (hch.cell HM.out.2.1 (fun h => hrb h.symm)) hrb
            by_cases hpt : byt s (i + q) = 46
            · have hdot : dot = some q := (HM.out.1.point q hqn).1 hpt
              rw [hpt]
              have hf1 : fo dot q = true := by rw [hdot]; exact (fo_at q).1
              rw [hf1]
              have HH := Lib.hid (And.intro hSI (And.intro hNv (And.intro hown (And.intro hch (And.intro hdot hpt)))))
              obtain ⟨ct, hct⟩ : ∃ x, x = cntTo s i q := ⟨_, rfl⟩
              obtain ⟨dp, hdp⟩ : ∃ x, x = dpq s i dot q := ⟨_, rfl⟩
              rw [← hct, ← hdp]
              have HC := Lib.hid hct
              clear hSI hNv hown hch hdot hpt hf1 hct hdp hr
              go_wp2_with fail
              refine hrd'.mono ?_
              rintro e w2 ⟨hch2, ⟨hi2, rfl, hr2⟩ | ⟨h0, rfl, hr2⟩⟩
              · rw [byt_in hi2]
                have HN := Lib.hid (And.intro hr2 hch2)
                clear hrd' hr2 hch2
                obtain ⟨cn, hcn⟩ : ∃ x, x = byt s (i + q + 1) := ⟨_, rfl⟩
                rw [← hcn]
                have HCN := Lib.hid hcn
                clear hcn
                go_wp2
                go_roundg (n - (q + 1))
                case measure => omega
                case rel =>
                  obtain ⟨hr2, hch2⟩ := HN.out
                  obtain ⟨hSI, hN2, hO2, hch', hdot, hpt⟩ := HH.out
                  have hS2 := hSI.point hpt
                  exact ⟨q + 1, _, _, _, _, 46, hqn, Nat.le_refl _, hS2, rfl, hN2.keep hch2 (fun k hk e => by have := hO2 k hk; have := HM.out.2.2.2; omega), hO2, by rw [hdot, (fo_at q).2], by rw [HC.out, show cntTo s i (q + 1) = cntTo s i q by simp [cntTo, hpt]], rfl, rfl, rfl, rfl, rfl, by rw [hdot, dpq_at, HC.out], hch'.trans hch2 (fun _ h => h) (fun _ _ h => h), .inl ⟨by omega, rfl, by rw [HCN.out]; rfl, hr2⟩⟩
              · have HN := Lib.hid (And.intro hr2 hch2)
                clear hrd' hr2 hch2
                go_wp2
                go_roundg (n - (q + 1))
                case measure => omega
                case rel =>
                  obtain ⟨hr2, hch2⟩ := HN.out
                  have hszn := HM.out.1.size
                  obtain ⟨hSI, hN2, hO2, hch', hdot, hpt⟩ := HH.out
                  have hS2 := hSI.point hpt
                  exact ⟨q + 1, _, _, _, _, 46, hqn, Nat.le_refl _, hS2, rfl, hN2.keep hch2 (fun k hk e => by have := hO2 k hk; have := HM.out.2.2.2; omega), hO2, by rw [hdot, (fo_at q).2], by rw [HC.out, show cntTo s i (q + 1) = cntTo s i q by simp [cntTo, hpt]], rfl, rfl, rfl, rfl, rfl, by rw [hdot, dpq_at, HC.out], hch'.trans hch2 (fun _ h => h) (fun _ _ h => h), .inr ⟨by omega, by omega, rfl, rfl, hr2⟩⟩
            · have hdg := (HM.out.1.byte q hqn).resolve_left hpt
              have hdot : dot ≠ some q := fun e => hpt ((HM.out.1.point q hqn).2 e)
              obtain ⟨c, hc⟩ : ∃ x, x = byt s (i + q) := ⟨_, rfl⟩
              obtain ⟨d, hd⟩ : ∃ x, x = byt s (i + q) - 48 := ⟨_, rfl⟩
              obtain ⟨ct, hct⟩ : ∃ x, x = cntTo s i q := ⟨_, rfl⟩
              obtain ⟨dp, hdp⟩ : ∃ x, x = dpq s i dot q := ⟨_, rfl⟩
              have hcl := cntTo_le s i q
              have hdil := hSI.dil
              have hkl := hSI.kl
              have h18 : 10 ^ kk ≤ 10 ^ 18 := Nat.pow_le_pow_right (by omega) (by omega)
              have h18' : (10 : Nat) ^ 18 = 1000000000000000000 := by decide
              rw [← hct] at hcl ⊢
              rw [← hdp, ← hc]
              have e46 : ((c : Int) == 46) = false := beq_eq_false_iff_ne.2 (by omega)
              have e95 : ((c : Int) == 95) = false := beq_eq_false_iff_ne.2 (by omega)
              have l1 : (48 : Int) ≤ c := by omega
              have l2 : (c : Int) ≤ 57 := by omega
              have w1' : IntKind.u8.wrap ((c : Int) - 48) = (d : Int) := by rw [IntKind.wrap_u8]; omega
              have w2' : IntKind.u64.wrap (d : Int) = (d : Int) := by rw [IntKind.wrap_u64]; omega
              have l3 : ¬ (10 : Int) ≤ d := by omega
              have w3' : IntKind.u64.wrap ((di : Int) * 10) = (di : Int) * 10 := by rw [IntKind.wrap_u64]; omega
              have w4' : IntKind.u64.wrap ((di : Int) * 10 + d) = (di : Int) * 10 + d := by rw [IntKind.wrap_u64]; omega
              have HH := Lib.hid (And.intro hSI (And.intro hNv (And.intro hown (And.intro hch (And.intro hdot (And.intro hdg (And.intro hpt (And.intro hct (And.intro hdp hd)))))))))
              by_cases hk19 : kk + 1 = 19
              · have e19 : ((kk : Int) + 1 == 19) = true := beq_iff_eq.2 (by omega)
                have hfull := hSI.full hdg.1 hdg.2 hk19
                rw [← hd] at hfull
                have hZw : wlen Z ≤ 1000 := by
                  have h1 := wlen_ten (numTo_lt s i q (fun q' hq' => by rcases HM.out.1.byte q' (by omega) with h | h <;> omega))
                  have h2 : Z ≤ numTo s i q := by
                    rw [hSI.val]
                    have := Nat.le_mul_of_pos_right Z (Nat.pow_pos (n := kk) (show 0 < 10 by omega)); omega
                  have := wlen_mono h2; omega
                have hmul := mulAddWW_any s0 s0 Z 10000000000000000000 (di * 10 + d) wr hNv.st hNv (by omega) (by unfold B; omega) (by have := hfull.2; unfold B; omega) (.inl rfl)
                rw [show ((di * 10 + d : Nat) : Int) = (di : Int) * 10 + d by omega, show ((10000000000000000000 : Nat) : Int) = 10000000000000000000 from rfl] at hmul
                have HF := Lib.hid (And.intro hfull.1 hr)
                obtain ⟨za, zc, rfl⟩ := hNv.shape
                clear hSI hNv hown hch hdot hdg hpt hct hdp hd hc hdil h18 h18' hfull hZw hr hrd' hk19
                generalize wlen Z = lz at *
                go_wp2_with fail
                refine hmul.mono ?_
                rintro e w3 ⟨v, rfl, g1, g2, g3⟩
                have hrb3 : Rdr w3 rb s (i + q + 1) (-1) := HF.out.2.keep g2 (fun e => by have := HH.out.2.2.1 rb e; have := HM.out.2.2.2; omega)
                have hch3 : Chg (fun k => k = rb) w w3 := HH.out.2.2.2.1.trans g2 (fun _ h => h) (fun k hk e => by have := HH.out.2.2.1 k e; omega)
                have hown3 : ∀ k, v.ownBlock = some k → w.heap.size ≤ k := fun k hk => (g3 k hk).elim (HH.out.2.2.1 k) (fun h => by have := HH.out.2.2.2.1.size; omega)
                have hrd' := readByte rb s (i + q + 1) (-1) (.iface te ve) w3 hrb3 (by omega) (by omega) (hch3.cell HM.out.2.1 (fun h => hrb h.symm)) hrb
                have HV := Lib.hid (And.intro g1 (And.intro hown3 hch3))
                clear g1 g2 g3 hrb3 hch3 hown3 hmul
                go_wp2_with fail
                refine hrd'.mono ?_
                rintro e w2 ⟨hch2, ⟨hi2, rfl, hr2⟩ | ⟨h0, rfl, hr2⟩⟩
                · rw [byt_in hi2]
                  have HN := Lib.hid (And.intro hr2 hch2)
                  clear hrd' hr2 hch2
                  obtain ⟨cn, hcn⟩ : ∃ x, x = byt s (i + q + 1) := ⟨_, rfl⟩
                  rw [← hcn]
                  have HCN := Lib.hid hcn
                  clear hcn
                  go_wp2
                  go_roundg (n - (q + 1))
                  case measure => omega
                  case rel =>
                    obtain ⟨hr2, hch2⟩ := HN.out
                    obtain ⟨hSI, _, _, _, hdot, hdg, hpt, hct, hdp, hd⟩ := HH.out
                    obtain ⟨hN2, hO2, hch'⟩ := HV.out
                    have hS2 := HF.out.1
                    exact ⟨q + 1, _, _, _, _, 48, hqn, Nat.le_refl _, hS2, rfl, hN2.keep hch2 (fun k hk e => by have := hO2 k hk; have := HM.out.2.2.2; omega), hO2, by rw [fo_step hdot], by rw [show cntTo s i (q + 1) = cntTo s i q + 1 by simp [cntTo, hpt], hct]; rfl, rfl, rfl, rfl, rfl, rfl, by rw [dpq_step hdot, hdp], hch'.trans hch2 (fun _ h => h) (fun _ _ h => h), .inl ⟨by omega, rfl, by rw [HCN.out]; rfl, hr2⟩⟩
                · have HN := Lib.hid (And.intro hr2 hch2)
                  clear hrd' hr2 hch2
                  go_wp2
                  go_roundg (n - (q + 1))
                  case measure => omega
                  case rel =>
                    obtain ⟨hr2, hch2⟩ := HN.out
                    have hszn := HM.out.1.size
                    obtain ⟨hSI, _, _, _, hdot, hdg, hpt, hct, hdp, hd⟩ := HH.out
                    obtain ⟨hN2, hO2, hch'⟩ := HV.out
                    have hS2 := HF.out.1
                    exact ⟨q + 1, _, _, _, _, 48, hqn, Nat.le_refl _, hS2, rfl, hN2.keep hch2 (fun k hk e => by have := hO2 k hk; have := HM.out.2.2.2; omega), hO2, by rw [fo_step hdot], by rw [show cntTo s i (q + 1) = cntTo s i q + 1 by simp [cntTo, hpt], hct]; rfl, rfl, rfl, rfl, rfl, rfl, by rw [dpq_step hdot, hdp], hch'.trans hch2 (fun _ h => h) (fun _ _ h => h), .inr ⟨by omega, by omega, rfl, rfl, hr2⟩⟩
              · have e19 : ((kk : Int) + 1 == 19) = false := beq_eq_false_iff_ne.2 (by omega)
                have hS2' := hSI.digit hdg.1 hdg.2 hk19
                rw [← hd] at hS2'
                have HF := Lib.hid hS2'
                clear hSI hNv hown hch hdot hdg hpt hct hdp hd hc hdil h18 h18' hr hk19 hS2'
                go_wp2_with fail
                refine hrd'.mono ?_
                rintro e w2 ⟨hch2, ⟨hi2, rfl, hr2⟩ | ⟨h0, rfl, hr2⟩⟩
                · rw [byt_in hi2]
                  have HN := Lib.hid (And.intro hr2 hch2)
                  clear hrd' hr2 hch2
                  obtain ⟨cn, hcn⟩ : ∃ x, x = byt s (i + q + 1) := ⟨_, rfl⟩
                  rw [← hcn]
                  have HCN := Lib.hid hcn
                  clear hcn
                  go_wp2
                  go_roundg (n - (q + 1))
                  case measure => omega
                  case rel =>
                    obtain ⟨hr2, hch2⟩ := HN.out
                    obtain ⟨hSI, hN2, hO2, hch', hdot, hdg, hpt, hct, hdp, hd⟩ := HH.out
                    have hS2 := HF.out
                    exact ⟨q + 1, _, _, _, _, 48, hqn, Nat.le_refl _, hS2, rfl, hN2.keep hch2 (fun k hk e => by have := hO2 k hk; have := HM.out.2.2.2; omega), hO2, by rw [fo_step hdot], by rw [show cntTo s i (q + 1) = cntTo s i q + 1 by simp [cntTo, hpt], hct]; rfl, rfl, rfl, rfl, rfl, rfl, by rw [dpq_step hdot, hdp], hch'.trans hch2 (fun _ h => h) (fun _ _ h => h), .inl ⟨by omega, rfl, by rw [HCN.out]; rfl, hr2⟩⟩
                · have HN := Lib.hid (And.intro hr2 hch2)
                  clear hrd' hr2 hch2
                  go_wp2
                  go_roundg (n - (q + 1))
                  case measure => omega
                  case rel =>
                    obtain ⟨hr2, hch2⟩ := HN.out
                    have hszn := HM.out.1.size
                    obtain ⟨hSI, hN2, hO2, hch', hdot, hdg, hpt, hct, hdp, hd⟩ := HH.out
                    have hS2 := HF.out
                    exact ⟨q + 1, _, _, _, _, 48, hqn, Nat.le_refl _, hS2, rfl, hN2.keep hch2 (fun k hk e => by have := hO2 k hk; have := HM.out.2.2.2; omega), hO2, by rw [fo_step hdot], by rw [show cntTo s i (q + 1) = cntTo s i q + 1 by simp [cntTo, hpt], hct]; rfl, rfl, rfl, rfl, rfl, rfl, by rw [dpq_step hdot, hdp], hch'.trans hch2 (fun _ h => h) (fun _ _ h => h), .inr ⟨by omega, by omega, rfl, rfl, hr2⟩⟩
          · obtain rfl : n = q := by omega
            have hun := unreadByte rb s (i + n) (-1) wr hr hin (by omega)
            have hst := HM.out.1.stop hin
            obtain ⟨c, hc⟩ : ∃ x, x = byt s (i + n) := ⟨_, rfl⟩
            rw [← hc] at hst ⊢
            clear hc hr
            rcases hst with rfl | rfl
            · go_wp2_with fail
              refine hun.mono ?_
              rintro e w2 ⟨rfl, hrW, hch2⟩
              have hchW := hch.trans hch2 (U := fun k => k = rb) (fun _ h => h) (fun _ _ h => h)
              have hNv := hNv.keep hch2 (fun k hk e => by have := hown k hk; have := HM.out.2.2.2; omega)
              clear hch hch2 hun
              have hG0 : w2.cell? ⟨0, 0, none⟩ = some (.iface te ve) := hchW.cell HM.out.2.1 (fun h => hrb h.symm)
              have hcp := cnt_pos HM.out.1
              have ecn : ((cntTo s i n : Int) == 0) = false := beq_eq_false_iff_ne.2 (by omega)
              have hcl := cntTo_le s i n
              have hnl : n ≤ 1000 := by have := HM.out.1.size; have := HM.out.2.2.1; omega
              obtain ⟨dp, hdp⟩ : ∃ x, x = dpq s i dot n := ⟨_, rfl⟩
              obtain ⟨ct, hct⟩ : ∃ x, x = cntTo s i n := ⟨_, rfl⟩
              have hdb : dp ≤ ct := by
                rw [hdp, hct]; unfold dpq
                cases hdd : dot with
                | none => show (-1 : Int) ≤ _; omega
                | some d =>
                  dsimp only
                  split
                  · rename_i hlt
                    have := cntTo_mono s i (show d ≤ n by omega); omega
                  · omega
              have hfc : fcount s i n dot = if 0 ≤ dp then dp - ct else ct := by unfold fcount; rw [← hdp, ← hct]
              rw [← hct] at hcp ecn hcl ⊢
              rw [← hdp]
              have hval := hSI.val
              have hdil := hSI.dil
              have hkl := hSI.kl
              have hZw : wlen Z ≤ 1000 := by
                have h1 := wlen_ten (numTo_lt s i n (fun q hq => by rcases HM.out.1.byte q hq with h | h <;> omega))
                have h2 : Z ≤ numTo s i n := by
                  rw [hval]
                  have := Nat.le_mul_of_pos_right Z (Nat.pow_pos (n := kk) (show 0 < 10 by omega)); omega
                have := wlen_mono h2; omega
              obtain ⟨za, zc, rfl⟩ := hNv.shape
              have hsub : 0 ≤ dp → IntKind.i64.wrap (dp - (ct : Int)) = dp - ct := fun h => by rw [IntKind.wrap_i64]; omega
              have HT := Lib.hid (And.intro hfc (And.intro hNv (And.intro hrW (And.intro hchW (And.intro hown hval)))))
              by_cases hk0 : kk = 0
              · subst hk0
                have hZ : numTo s i n = Z := by
                  rw [hval, Nat.pow_zero, Nat.mul_one]; rw [Nat.pow_zero] at hdil; omega
                have HZ := Lib.hid hZ
                clear hfc hNv hrW hchW hown hval hdil hkl hZw hSI hdp hct hZ hcp hcl hnl hdb
                by_cases hd : 0 ≤ dp
                · have HDN := Lib.hid hd
                  have hsub' := hsub hd
                  have hd' : dp ≥ 0 := hd
                  clear hsub
                  go_wp2
                  refine bodyPost_ret (results_tmp4 rfl _ _ _) rfl ?_
                  obtain ⟨hfc, hNv, hrW, hchW, hown, hval⟩ := HT.out
                  rw [if_pos (by have := HDN.out; omega)] at hfc
                  exact Scanned.of rfl hfc.symm (by rw [HZ.out]; exact hNv) hrW hchW hown
                · have HDN := Lib.hid hd
                  clear hsub
                  go_wp2
                  refine bodyPost_ret (results_tmp4 rfl _ _ _) rfl ?_
                  obtain ⟨hfc, hNv, hrW, hchW, hown, hval⟩ := HT.out
                  rw [if_neg (by have := HDN.out; omega)] at hfc
                  exact Scanned.of rfl hfc.symm (by rw [HZ.out]; exact hNv) hrW hchW hown
              · have g0 : (0 : Int) < kk := by omega
                have hp10 : 10 ^ kk < B := by
                  have h1 : 10 ^ kk ≤ 10 ^ 18 := Nat.pow_le_pow_right (by omega) (by omega)
                  have h2 : (10 : Nat) ^ 18 = 1000000000000000000 := by decide
                  unfold B; omega
                have hpw := pow10 kk (by omega) w2
                have hmul := mulAddWW_any (.slice za (wlen Z) zc) (.slice za (wlen Z) zc) Z (10 ^ kk) di w2 hNv.st hNv (by omega) hp10 (by omega) (.inl rfl)
                obtain ⟨px, hpx⟩ : ∃ x, x = 10 ^ kk := ⟨_, rfl⟩
                rw [← hpx] at hmul
                have hpw' : Calls Tryz.prog 71 #[.int .u64 10, .int .i64 kk] w2 fun e w' => e = .returned (.int .u64 (px : Nat)) ∧ w2 = w' := by rw [hpx]; exact hpw
                have HZ := Lib.hid (show numTo s i n = Z * px + di by rw [hpx]; exact hval)
                clear hfc hNv hrW hchW hown hval hdil hkl hZw hSI hdp hct hcp hcl hnl hdb hp10 hpw hpx
                generalize wlen Z = lz at *
                go_wp2_with fail
                refine hpw'.mono ?_
                rintro e w' ⟨rfl, rfl⟩
                go_wp2_with fail
                refine hmul.mono ?_
                rintro e w5 ⟨v, rfl, g1, g2, g3⟩
                have hG := Lib.hid (And.intro g1 (And.intro g2 g3))
                clear g1 g2 g3 hpw' hmul
                by_cases hd : 0 ≤ dp
                · have HDN := Lib.hid hd
                  have hsub' := hsub hd
                  have hd' : dp ≥ 0 := hd
                  clear hsub
                  go_wp2
                  refine bodyPost_ret (results_tmp4 rfl _ _ _) rfl ?_
                  obtain ⟨hfc, hNv, hrW, hchW, hown, hval⟩ := HT.out
                  obtain ⟨g1, g2, g3⟩ := hG.out
                  rw [if_pos (by have := HDN.out; omega)] at hfc
                  exact Scanned.of rfl hfc.symm (by rw [HZ.out]; exact g1) (hrW.keep g2 (fun e => by have := hown rb e; have := HM.out.2.2.2; omega)) (hchW.trans g2 (fun _ h => h) (fun k hk e => by have := hown k e; omega)) (fun k hk => (g3 k hk).elim (hown k) (fun h => by have := hchW.size; omega))
                · have HDN := Lib.hid hd
                  clear hsub
                  go_wp2
                  refine bodyPost_ret (results_tmp4 rfl _ _ _) rfl ?_
                  obtain ⟨hfc, hNv, hrW, hchW, hown, hval⟩ := HT.out
                  obtain ⟨g1, g2, g3⟩ := hG.out
                  rw [if_neg (by have := HDN.out; omega)] at hfc
                  exact Scanned.of rfl hfc.symm (by rw [HZ.out]; exact g1) (hrW.keep g2 (fun e => by have := hown rb e; have := HM.out.2.2.2; omega)) (hchW.trans g2 (fun _ h => h) (fun k hk e => by have := hown k e; omega)) (fun k hk => (g3 k hk).elim (hown k) (fun h => by have := hchW.size; omega))
            · go_wp2_with fail
              refine hun.mono ?_
              rintro e w2 ⟨rfl, hrW, hch2⟩
              have hchW := hch.trans hch2 (U := fun k => k = rb) (fun _ h => h) (fun _ _ h => h)
              have hNv := hNv.keep hch2 (fun k hk e => by have := hown k hk; have := HM.out.2.2.2; omega)
              clear hch hch2 hun
              have hG0 : w2.cell? ⟨0, 0, none⟩ = some (.iface te ve) := hchW.cell HM.out.2.1 (fun h => hrb h.symm)
              have hcp := cnt_pos HM.out.1
              have ecn : ((cntTo s i n : Int) == 0) = false := beq_eq_false_iff_ne.2 (by omega)
              have hcl := cntTo_le s i n
              have hnl : n ≤ 1000 := by have := HM.out.1.size; have := HM.out.2.2.1; omega
              obtain ⟨dp, hdp⟩ : ∃ x, x = dpq s i dot n := ⟨_, rfl⟩
              obtain ⟨ct, hct⟩ : ∃ x, x = cntTo s i n := ⟨_, rfl⟩
              have hdb : dp ≤ ct := by
                rw [hdp, hct]; unfold dpq
                cases hdd : dot with
                | none => show (-1 : Int) ≤ _; omega
                | some d =>
                  dsimp only
                  split
                  · rename_i hlt
                    have := cntTo_mono s i (show d ≤ n by omega); omega
                  · omega
              have hfc : fcount s i n dot = if 0 ≤ dp then dp - ct else ct := by unfold fcount; rw [← hdp, ← hct]
              rw [← hct] at hcp ecn hcl ⊢
              rw [← hdp]
              have hval := hSI.val
              have hdil := hSI.dil
              have hkl := hSI.kl
              have hZw : wlen Z ≤ 1000 := by
                have h1 := wlen_ten (numTo_lt s i n (fun q hq => by rcases HM.out.1.byte q hq with h | h <;> omega))
                have h2 : Z ≤ numTo s i n := by
                  rw [hval]
                  have := Nat.le_mul_of_pos_right Z (Nat.pow_pos (n := kk) (show 0 < 10 by omega)); omega
                have := wlen_mono h2; omega
              obtain ⟨za, zc, rfl⟩ := hNv.shape
              have hsub : 0 ≤ dp → IntKind.i64.wrap (dp - (ct : Int)) = dp - ct := fun h => by rw [IntKind.wrap_i64]; omega
              have HT := Lib.hid (And.intro hfc (And.intro hNv (And.intro hrW (And.intro hchW (And.intro hown hval)))))
              by_cases hk0 : kk = 0
              · subst hk0
                have hZ : numTo s i n = Z := by
                  rw [hval, Nat.pow_zero, Nat.mul_one]; rw [Nat.pow_zero] at hdil; omega
                have HZ := Lib.hid hZ
                clear hfc hNv hrW hchW hown hval hdil hkl hZw hSI hdp hct hZ hcp hcl hnl hdb
                by_cases hd : 0 ≤ dp
                · have HDN := Lib.hid hd
                  have hsub' := hsub hd
                  have hd' : dp ≥ 0 := hd
                  clear hsub
                  go_wp2
                  refine bodyPost_ret (results_tmp4 rfl _ _ _) rfl ?_
                  obtain ⟨hfc, hNv, hrW, hchW, hown, hval⟩ := HT.out
                  rw [if_pos (by have := HDN.out; omega)] at hfc
                  exact Scanned.of rfl hfc.symm (by rw [HZ.out]; exact hNv) hrW hchW hown
                · have HDN := Lib.hid hd
                  clear hsub
                  go_wp2
                  refine bodyPost_ret (results_tmp4 rfl _ _ _) rfl ?_
                  obtain ⟨hfc, hNv, hrW, hchW, hown, hval⟩ := HT.out
                  rw [if_neg (by have := HDN.out; omega)] at hfc
                  exact Scanned.of rfl hfc.symm (by rw [HZ.out]; exact hNv) hrW hchW hown
              · have g0 : (0 : Int) < kk := by omega
                have hp10 : 10 ^ kk < B := by
                  have h1 : 10 ^ kk ≤ 10 ^ 18 := Nat.pow_le_pow_right (by omega) (by omega)
                  have h2 : (10 : Nat) ^ 18 = 1000000000000000000 := by decide
                  unfold B; omega
                have hpw := pow10 kk (by omega) w2
                have hmul := mulAddWW_any (.slice za (wlen Z) zc) (.slice za (wlen Z) zc) Z (10 ^ kk) di w2 hNv.st hNv (by omega) hp10 (by omega) (.inl rfl)
                obtain ⟨px, hpx⟩ : ∃ x, x = 10 ^ kk := ⟨_, rfl⟩
                rw [← hpx] at hmul
                have hpw' : Calls Tryz.prog 71 #[.int .u64 10, .int .i64 kk] w2 fun e w' => e = .returned (.int .u64 (px : Nat)) ∧ w2 = w' := by rw [hpx]; exact hpw
                have HZ := Lib.hid (show numTo s i n = Z * px + di by rw [hpx]; exact hval)
                clear hfc hNv hrW hchW hown hval hdil hkl hZw hSI hdp hct hcp hcl hnl hdb hp10 hpw hpx
                generalize wlen Z = lz at *
                go_wp2_with fail
                refine hpw'.mono ?_
                rintro e w' ⟨rfl, rfl⟩
                go_wp2_with fail
                refine hmul.mono ?_
                rintro e w5 ⟨v, rfl, g1, g2, g3⟩
                have hG := Lib.hid (And.intro g1 (And.intro g2 g3))
                clear g1 g2 g3 hpw' hmul
                by_cases hd : 0 ≤ dp
                · have HDN := Lib.hid hd
                  have hsub' := hsub hd
                  have hd' : dp ≥ 0 := hd
                  clear hsub
                  go_wp2
                  refine bodyPost_ret (results_tmp4 rfl _ _ _) rfl ?_
                  obtain ⟨hfc, hNv, hrW, hchW, hown, hval⟩ := HT.out
                  obtain ⟨g1, g2, g3⟩ := hG.out
                  rw [if_pos (by have := HDN.out; omega)] at hfc
                  exact Scanned.of rfl hfc.symm (by rw [HZ.out]; exact g1) (hrW.keep g2 (fun e => by have := hown rb e; have := HM.out.2.2.2; omega)) (hchW.trans g2 (fun _ h => h) (fun k hk e => by have := hown k e; omega)) (fun k hk => (g3 k hk).elim (hown k) (fun h => by have := hchW.size; omega))
                · have HDN := Lib.hid hd
                  clear hsub
                  go_wp2
                  refine bodyPost_ret (results_tmp4 rfl _ _ _) rfl ?_
                  obtain ⟨hfc, hNv, hrW, hchW, hown, hval⟩ := HT.out
                  obtain ⟨g1, g2, g3⟩ := hG.out
                  rw [if_neg (by have := HDN.out; omega)] at hfc
                  exact Scanned.of rfl hfc.symm (by rw [HZ.out]; exact g1) (hrW.keep g2 (fun e => by have := hown rb e; have := HM.out.2.2.2; omega)) (hchW.trans g2 (fun _ h => h) (fun k hk e => by have := hown k e; omega)) (fun k hk => (g3 k hk).elim (hown k) (fun h => by have := hchW.size; omega))
        · have hchW := hch
          have hrW := hr
          clear hch hr
          have hG0 : wr.cell? ⟨0, 0, none⟩ = some (.iface te ve) := hchW.cell HM.out.2.1 (fun h => hrb h.symm)
          have hcp := cnt_pos HM.out.1
          have ecn : ((cntTo s i n : Int) == 0) = false := beq_eq_false_iff_ne.2 (by omega)
          have hcl := cntTo_le s i n
          have hnl : n ≤ 1000 := by have := HM.out.1.size; have := HM.out.2.2.1; omega
          obtain ⟨dp, hdp⟩ : ∃ x, x = dpq s i dot n := ⟨_, rfl⟩
          obtain ⟨ct, hct⟩ : ∃ x, x = cntTo s i n := ⟨_, rfl⟩
          have hdb : dp ≤ ct := by
            rw [hdp, hct]; unfold dpq
            cases hdd : dot with
            | none => show (-1 : Int) ≤ _; omega
            | some d =>
              dsimp only
              split
              · rename_i hlt
                have := cntTo_mono s i (show d ≤ n by omega); omega
              · omega
          have hfc : fcount s i n dot = if 0 ≤ dp then dp - ct else ct := by unfold fcount; rw [← hdp, ← hct]
          rw [← hct] at hcp ecn hcl ⊢
          rw [← hdp]
          have hval := hSI.val
          have hdil := hSI.dil
          have hkl := hSI.kl
          have hZw : wlen Z ≤ 1000 := by
            have h1 := wlen_ten (numTo_lt s i n (fun q hq => by rcases HM.out.1.byte q hq with h | h <;> omega))
            have h2 : Z ≤ numTo s i n := by
              rw [hval]
              have := Nat.le_mul_of_pos_right Z (Nat.pow_pos (n := kk) (show 0 < 10 by omega)); omega
            have := wlen_mono h2; omega
          obtain ⟨za, zc, rfl⟩ := hNv.shape
          have hsub : 0 ≤ dp → IntKind.i64.wrap (dp - (ct : Int)) = dp - ct := fun h => by rw [IntKind.wrap_i64]; omega
          have HT := Lib.hid (And.intro hfc (And.intro hNv (And.intro hrW (And.intro hchW (And.intro hown hval)))))
          by_cases hk0 : kk = 0
          · subst hk0
            have hZ : numTo s i n = Z := by
              rw [hval, Nat.pow_zero, Nat.mul_one]; rw [Nat.pow_zero] at hdil; omega
            have HZ := Lib.hid hZ
            clear hfc hNv hrW hchW hown hval hdil hkl hZw hSI hdp hct hZ hcp hcl hnl hdb
            by_cases hd : 0 ≤ dp
            · have HDN := Lib.hid hd
              have hsub' := hsub hd
              have hd' : dp ≥ 0 := hd
              clear hsub
              go_wp2
              refine bodyPost_ret (results_tmp4 rfl _ _ _) rfl ?_
              obtain ⟨hfc, hNv, hrW, hchW, hown, hval⟩ := HT.out
              rw [if_pos (by have := HDN.out; omega)] at hfc
              exact Scanned.of rfl hfc.symm (by rw [HZ.out]; exact hNv) hrW hchW hown
            · have HDN := Lib.hid hd
              clear hsub
              go_wp2
              refine bodyPost_ret (results_tmp4 rfl _ _ _) rfl ?_
              obtain ⟨hfc, hNv, hrW, hchW, hown, hval⟩ := HT.out
              rw [if_neg (by have := HDN.out; omega)] at hfc
              exact Scanned.of rfl hfc.symm (by rw [HZ.out]; exact hNv) hrW hchW hown
          · have g0 : (0 : Int) < kk := by omega
            have hp10 : 10 ^ kk < B := by
              have h1 : 10 ^ kk ≤ 10 ^ 18 := Nat.pow_le_pow_right (by omega) (by omega)
              have h2 : (10 : Nat) ^ 18 = 1000000000000000000 := by decide
              unfold B; omega
            have hpw := pow10 kk (by omega) wr
            have hmul := mulAddWW_any (.slice za (wlen Z) zc) (.slice za (wlen Z) zc) Z (10 ^ kk) di wr hNv.st hNv (by omega) hp10 (by omega) (.inl rfl)
            obtain ⟨px, hpx⟩ : ∃ x, x = 10 ^ kk := ⟨_, rfl⟩
            rw [← hpx] at hmul
            have hpw' : Calls Tryz.prog 71 #[.int .u64 10, .int .i64 kk] wr fun e w' => e = .returned (.int .u64 (px : Nat)) ∧ wr = w' := by rw [hpx]; exact hpw
            have HZ := Lib.hid (show numTo s i n = Z * px + di by rw [hpx]; exact hval)
            clear hfc hNv hrW hchW hown hval hdil hkl hZw hSI hdp hct hcp hcl hnl hdb hp10 hpw hpx
            generalize wlen Z = lz at *
            go_wp2_with fail
            refine hpw'.mono ?_
            rintro e w' ⟨rfl, rfl⟩
            go_wp2_with fail
            refine hmul.mono ?_
            rintro e w5 ⟨v, rfl, g1, g2, g3⟩
            have hG := Lib.hid (And.intro g1 (And.intro g2 g3))
            clear g1 g2 g3 hpw' hmul
            by_cases hd : 0 ≤ dp
            · have HDN := Lib.hid hd
              have hsub' := hsub hd
              have hd' : dp ≥ 0 := hd
              clear hsub
              go_wp2
              refine bodyPost_ret (results_tmp4 rfl _ _ _) rfl ?_
              obtain ⟨hfc, hNv, hrW, hchW, hown, hval⟩ := HT.out
              obtain ⟨g1, g2, g3⟩ := hG.out
              rw [if_pos (by have := HDN.out; omega)] at hfc
              exact Scanned.of rfl hfc.symm (by rw [HZ.out]; exact g1) (hrW.keep g2 (fun e => by have := hown rb e; have := HM.out.2.2.2; omega)) (hchW.trans g2 (fun _ h => h) (fun k hk e => by have := hown k e; omega)) (fun k hk => (g3 k hk).elim (hown k) (fun h => by have := hchW.size; omega))
            · have HDN := Lib.hid hd
              clear hsub
              go_wp2
              refine bodyPost_ret (results_tmp4 rfl _ _ _) rfl ?_
              obtain ⟨hfc, hNv, hrW, hchW, hown, hval⟩ := HT.out
              obtain ⟨g1, g2, g3⟩ := hG.out
              rw [if_neg (by have := HDN.out; omega)] at hfc
              exact Scanned.of rfl hfc.symm (by rw [HZ.out]; exact g1) (hrW.keep g2 (fun e => by have := hown rb e; have := HM.out.2.2.2; omega)) (hchW.trans g2 (fun _ h => h) (fun k hk e => by have := hown k e; omega)) (fun k hk => (g3 k hk).elim (hown k) (fun h => by have := hchW.size; omega))
end Go.Proofs.YtbnmgopobmiadaaGreatDoor
