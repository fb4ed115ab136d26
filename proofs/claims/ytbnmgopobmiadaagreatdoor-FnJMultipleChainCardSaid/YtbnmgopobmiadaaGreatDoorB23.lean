/- Contract of divLarge. -/
import Derived.Test.YtbnmgopobmiadaaGreatDoorB20
import Derived.Test.YtbnmgopobmiadaaGreatDoorA2
import Derived.Outline
import Derived.Lib.SliceRun
import Derived.RegionTactic
import Derived.Deep.RegionWith

set_option linter.unusedSimpArgs false
set_option linter.unusedVariables false

namespace Go.Proofs.YtbnmgopobmiadaaGreatDoor
open Go.RowKit

theorem Stk.inside {w : World} {sb l : Nat} {S : Nat → Prop} (h : Stk w sb l S) : Stk w sb l (fun k => S k ∧ k < w.heap.size) := by
  obtain ⟨h0, ⟨rfl, h1⟩ | ⟨ib, base, c, k1, k2, k3, k4, k5, k6, k7, k8⟩⟩ := h
  · exact ⟨⟨h0, h1.lt⟩, .inl ⟨rfl, h1⟩⟩
  · refine ⟨⟨h0, k1.lt⟩, .inr ⟨ib, base, c, k1, k2, k3, k4, k5, k6, ⟨k7, k2.lt⟩, fun rb hb => ⟨(k8 rb hb).1, (k8 rb hb).2.1, (k8 rb hb).2.2, ?_⟩⟩⟩
    rcases k5 with ⟨h, _⟩ | ⟨rb', h, h'⟩
    · rw [h] at hb; cases hb
    · rw [h] at hb; cases hb; exact h'.lt

/-- what divLarge and div leave: two numbers in memory of their own -/
def Div2 (z z2 : Value) (T : Nat → Prop) (Q R : Nat) (w : World) (e : Ending) (w' : World) : Prop :=
  ∃ v v2, e = .returned (.tuple #[v, v2]) ∧ Nv w' v Q ∧ Nv w' v2 R ∧ Chg (fun k => z.ownBlock = some k ∨ z2.ownBlock = some k ∨ T k) w w' ∧
    (∀ k, v.ownBlock = some k → z.ownBlock = some k ∨ w.heap.size ≤ k) ∧ (∀ k, v2.ownBlock = some k → z2.ownBlock = some k ∨ w.heap.size ≤ k) ∧
    (∀ k, v.ownBlock = some k → v2.ownBlock ≠ some k)

/-- ... and apart from what the stack then holds -/
def Div2S (z z2 : Value) (T S' : Nat → Prop) (Q R : Nat) (w : World) (e : Ending) (w' : World) : Prop :=
  ∃ v v2, e = .returned (.tuple #[v, v2]) ∧ (Nv w' v Q ∧ Nv w' v2 R ∧ Chg (fun k => z.ownBlock = some k ∨ z2.ownBlock = some k ∨ T k) w w' ∧
    (∀ k, v.ownBlock = some k → z.ownBlock = some k ∨ w.heap.size ≤ k) ∧ (∀ k, v2.ownBlock = some k → z2.ownBlock = some k ∨ w.heap.size ≤ k) ∧
    (∀ k, v.ownBlock = some k → v2.ownBlock ≠ some k)) ∧ (∀ k, v.ownBlock = some k → ¬ S' k) ∧ (∀ k, v2.ownBlock = some k → ¬ S' k)
theorem Div2S.div2 {z z2 : Value} {T S' : Nat → Prop} {Q R : Nat} {w w' : World} {e : Ending} (h : Div2S z z2 T S' Q R w e w') : Div2 z z2 T Q R w e w' := by
  obtain ⟨v, v2, h1, h2, _⟩ := h
  exact ⟨v, v2, h1, h2⟩
theorem Nv.quiet {S : Nat → Prop} {w w' : World} {e : Ending} {v : Value} {X : Nat} (h : Nv w v X) (hq : Quiet S w e w') : Nv w' v X := by
  obtain ⟨_, _, q2, q3⟩ := hq
  rcases h with h | ⟨b, cap, rfl, h1, h2, h3, h4⟩
  · exact .inl h
  · exact .inr ⟨b, cap, rfl, h1, h2, q2 _ _ _ h3, q3 _ _ _ _ h4⟩
theorem divLarge_end {z z2 : Value} {sb l Q R qb qc ub ucap : Nat} {S S3 : Nat → Prop} {w w9 w10 : World} {e : Ending} (hc : Chg (fun k => z.ownBlock = some k ∨ z2.ownBlock = some k ∨ S k) w w9)
    (hq : Nv w9 (.slice (some ⟨qb, 0, none⟩) (wlen Q) qc) Q) (hr : Nv w9 (.slice (some ⟨ub, 0, none⟩) (wlen R) ucap) R) (hqu : qb ≠ ub) (hqo : z.ownBlock = some qb ∨ w.heap.size ≤ qb) (huo : z2.ownBlock = some ub ∨ w.heap.size ≤ ub)
    (hS3 : ∀ k, S3 k → S k ∨ w.heap.size ≤ k) (hqS : ¬ S3 qb) (huS : ¬ S3 ub) (hQ : Quiet S3 w9 e w10) (hStk : Stk w10 sb l S3) :
    ∃ S', Div2S z z2 S S' Q R w (.returned (.tuple #[.slice (some ⟨qb, 0, none⟩) (wlen Q) qc, .slice (some ⟨ub, 0, none⟩) (wlen R) ucap])) w10 ∧ Stk w10 sb l S' ∧ (∀ k, S' k → (S k ∨ w.heap.size ≤ k) ∧ k < w10.heap.size) := by
  refine ⟨_, ⟨_, _, rfl, ⟨hq.quiet hQ, hr.quiet hQ, hc.trans hQ.2.1 (fun k h => h) (fun k hk h => ?_), ?_, ?_, ?_⟩, fun k hk h => ?_, fun k hk h => ?_⟩, hStk.inside, fun k hk => ⟨hS3 k hk.1, hk.2⟩⟩
  · rcases hS3 k h with h | h
    · exact .inr (.inr h)
    · omega
  · intro k hk
    simp [Value.ownBlock] at hk; subst hk; exact hqo
  · intro k hk
    simp [Value.ownBlock] at hk; subst hk; exact huo
  · intro k hk hk2
    simp [Value.ownBlock] at hk hk2
    exact hqu (hk.trans hk2.symm)
  · simp [Value.ownBlock] at hk; subst hk; exact hqS h.1
  · simp [Value.ownBlock] at hk; subst hk; exact huS h.1

set_option maxHeartbeats 16000000 in
set_option maxRecDepth 100000 in
theorem divLarge (z z2 x y : Value) (sb l U V : Nat) (S : Nat → Prop) (w : World) (hz : St w z) (hz2 : St w z2) (hx : Nv w x U) (hy : Nv w y V) (hV2 : 2 ≤ wlen V) (hUV : V ≤ U)
    (hU : wlen U ≤ 10000) (hV : wlen V < 40) (hS : Stk w sb l S) (hSl : ∀ k, S k → k < w.heap.size) (hl : l ≤ 50000) (hG : w.cell? ⟨7, 0, none⟩ = some (.int .i64 40)) (hG7 : ¬ S 7) (hz7 : z2.ownBlock ≠ some 7)
    (hzS : Off S z) (hz2S : Off S z2) (hxS : Off S x) (hyS : Off S y) (hzz : Off (fun k => z.ownBlock = some k) z2) (hxz : Off (fun k => z2.ownBlock = some k) x) (hyz : Off (fun k => z2.ownBlock = some k) y) :
    Calls Tryz.prog 138 #[z, .pointer (some ⟨sb, 0, none⟩), z2, x, y] w (fun e w' => ∃ S', Div2S z z2 S S' (U / V) (U % V) w e w' ∧ Stk w' sb l S' ∧ (∀ k, S' k → (S k ∨ w.heap.size ≤ k) ∧ k < w'.heap.size)) := by
  have hV0 : V ≠ 0 := by rintro rfl; rw [wlen_zero] at hV2; omega
  have hU0 : U ≠ 0 := by omega
  obtain ⟨xb, xc, rfl, x1, x2, x3, x4⟩ := hx.pos hU0
  obtain ⟨yb, yc, rfl, y1, y2, y3, y4⟩ := hy.pos hV0
  have hVn := lt_wlen V
  have hVg := wlen_ge hV0
  have hUn := lt_wlen U
  have hmono := wlen_mono hUV
  have htop := top_ne hV0
  generalize hn : wlen V = n at *
  generalize hL : wlen U = L at *
  obtain ⟨m, rfl⟩ : ∃ m, L = m + n := ⟨L - n, by omega⟩
  obtain ⟨vt, hvt⟩ : ∃ t, t = dig V (n - 1) := ⟨_, rfl⟩
  have hvB : vt < B := hvt ▸ dig_lt _ _
  rw [← hvt] at htop
  obtain ⟨s, hs⟩ : ∃ s, s = nlzN vt := ⟨_, rfl⟩
  obtain ⟨hs1, hs2, hs3⟩ := nlzN_spec htop hvB
  rw [← hs] at hs1 hs2 hs3
  rw [hvt] at hs2 hs3
  have f1 := scale_lt (by omega) hVn hs3 hs1
  have f2 := scale_ge (by omega) hVn hs2
  have f3 := scale_top (by omega) hUn f1 f2 hs1
  have f4 := scale_fit (s := s) (by omega) hUn hVg
  have f5 := scale_word hUn hs1
  have cv : w.cell? ⟨yb, n - 1, none⟩ = some (.int .u64 vt) := by
    have := y4 (n - 1) (by omega)
    rw [Nat.zero_add, wd, ← hvt] at this; exact this
  have t1 : ((n : Int) - 1).toNat = n - 1 := by omega
  have hsave := stack_save w sb l S hS
  have hnlz := nlz vt w hvB
  rw [← hs] at hnlz
  have hnat := stack_nat w sb l n S hS hSl (by omega) (by omega)
  have HF := Lib.hid (And.intro hV0 (And.intro hVn (And.intro hUn (And.intro f1 (And.intro f2 (And.intro f3 (And.intro f4 (And.intro f5 (And.intro hs1 (And.intro hn hL))))))))))
  have HZ := Lib.hid (And.intro hz (And.intro hz2 (And.intro hzS (And.intro hz2S (And.intro hxS (And.intro hyS (And.intro hzz (And.intro hxz (And.intro hyz (And.intro hG7 hz7))))))))))
  have HX := Lib.hid (And.intro x3 (And.intro x4 (And.intro y3 (And.intro y4 (And.intro hSl hS)))))
  have hw7 : 7 < w.heap.size := by
    unfold World.cell? at hG
    rcases h : w.heap[7]? with _ | o
    · dsimp only at hG; rw [h] at hG; cases hG
    · exact (Array.getElem?_eq_some_iff.1 h).1
  clear hz hz2 hx hy hV0 hVn hUn hVg hmono htop hvt hvB hs hs1 hs2 hs3 f1 f2 f3 f4 f5 hS hSl hzS hz2S hxS hyS hzz hxz hyz hG7 hz7 x3 x4 y3 y4 hUV hU0 hn hL
  go_enter_defers Tryz.func138, Tryz.ntmps138
  go_wp2_with fail
  refine hsave.mono ?_
  rintro e w' ⟨rfl, rfl⟩
  go_wp2_with fail
  refine hnlz.mono ?_
  rintro e w' ⟨rfl, rfl⟩
  go_wp2_with fail
  refine hnat.mono ?_
  rintro e w1 ⟨hb, ho, hcap, l', S', rfl, k1, k2, k3, k4, k5, k6, k7, k8, k9, k10, k11, k12, k13⟩
  obtain ⟨hz, hz2, hzS, hz2S, hxS, hyS, hzz, hxz, hyz, hG7, hz7⟩ := HZ.out
  have hz2' := hz2.keep k11 hz2S
  have hmk := make_any z2 (m + n + 1) w1 hz2' (by omega) (by omega)
  rw [show ((m + n + 1 : Nat) : Int) = (m : Int) + n + 1 by omega] at hmk
  have HK := Lib.hid (And.intro k3 (And.intro k4 (And.intro k5 (And.intro k7 (And.intro k8 (And.intro k10 (And.intro k11 (And.intro k12 k13))))))))
  clear hz hz2 hzS hz2S hxS hyS hzz hxz hyz hG7 hz7 hz2' k3 k4 k5 k6 k7 k8 k10 k11 k12 k13 hsave hnlz hnat cv
  go_wp2_with fail
  refine hmk.mono ?_
  rintro e w2 ⟨ub, ucap, rfl, u1, u2, u3, u4, u5⟩
  clear hmk
  obtain ⟨hz, hz2, hzS, hz2S, hxS, hyS, hzz, hxz, hyz, hG7, hz7⟩ := HZ.out
  obtain ⟨k3, k4, k5, k7, k8, k10, k11, k12, k13⟩ := HK.out
  obtain ⟨x3, x4, y3, y4, hSl, hS⟩ := HX.out
  have hsz1 := k11.size
  have hb1 := k3.lt
  have hxu : xb ≠ ub := by
    rintro rfl
    rcases u5 with h | h
    · exact hxz _ rfl h
    · have := x3.lt; omega
  have hyu : yb ≠ ub := by
    rintro rfl
    rcases u5 with h | h
    · exact hyz _ rfl h
    · have := y3.lt; omega
  have hhu : hb ≠ ub := by
    rintro rfl
    rcases u5 with h | h
    · rcases k10 with h1 | ⟨h1, _⟩
      · have := hz2.lt _ h; omega
      · exact hz2S _ h h1
    · omega
  have hyh : yb ≠ hb := by
    rintro rfl
    rcases k10 with h1 | ⟨h1, _⟩
    · have := y3.lt; omega
    · exact hyS _ rfl h1
  have hxh : xb ≠ hb := by
    rintro rfl
    rcases k10 with h1 | ⟨h1, _⟩
    · have := x3.lt; omega
    · exact hxS _ rfl h1
  have hrx : Rd w2 xb 0 (m + n) U := u4.rd (k13 _ _ _ _ x3.lt x4 (.inl (hxS _ rfl))) (by have := x3.lt; omega) (fun h => h)
  have hry : Rd w2 yb 0 n V := u4.rd (k13 _ _ _ _ y3.lt y4 (.inl (hyS _ rfl))) (by have := y3.lt; omega) (fun h => h)
  have hwh : Wb w2 hb ho n := u4.wb k3 (fun h => h)
  have HU := Lib.hid (And.intro hhu (And.intro u3 (And.intro u4 (And.intro u5 (And.intro hwh hb1)))))
  clear hz hz2 hzS hz2S hxS hyS hzz hxz hyz hG7 hz7 k3 k4 k5 k7 k8 k10 k11 k12 k13 x3 x4 y3 y4 hSl hS
  by_cases hs0 : s = 0
  case' pos =>
    obtain ⟨w3, hrun, hw3⟩ := run_copy_words w2 82 82 3 Tryz.underlying82 hb ho n hcap yb 0 n yc n V (by simp) hwh hry
    have hrx3 : Rd w3 xb 0 (m + n) U := hw3.rd_out hrx (.inl hxh)
    have hwu3 : Wb w3 ub 0 ucap := hw3.wb u3
    obtain ⟨w4, hrun2, hw4⟩ := run_copy_words w3 82 82 3 Tryz.underlying82 ub 0 (m + n) ucap xb 0 (m + n) xc (m + n) U (by simp) (hwu3.mono (by omega)) hrx3
    obtain ⟨v0, hc0⟩ := (hw4.wb hwu3).cell (i := m + n) (by omega)
    have hf0 := (hw4.wb hwu3).frozen (m + n)
    rw [Nat.zero_add] at hc0
    have hw5 := hw4.snoc hwu3 (by omega) (v := .int .u64 0) (by rw [wd, dig_of_lt HF.out.2.2.1]; rfl)
    rw [Nat.zero_add] at hw5
    have hV' : V = V * 2 ^ s := by rw [hs0, Nat.pow_zero, Nat.mul_one]
    have hU' : U = U * 2 ^ s := by rw [hs0, Nat.pow_zero, Nat.mul_one]
    have e0 : ((s : Int) == 0) = true := by rw [hs0]; rfl
    have hw3' : Wr w2 w3 hb ho n (V * 2 ^ s) := hV' ▸ hw3
    have hw5' : Wr w3 (w4.setCell ⟨ub, m + n, none⟩ (.int .u64 0)) ub 0 (m + n + 1) (U * 2 ^ s) := hU' ▸ hw5
    have HT := Lib.hid (And.intro hw3' hw5')
    clear hw3 hw4 hw5 hw3' hw5' hV' hU' hrx hry hwh hrx3 hwu3 u3 u4 u5 hs0
    go_wp2_with fail
    clear hrun hrun2 hc0 hf0 e0
    generalize w4.setCell ⟨ub, m + n, none⟩ (.int .u64 0) = w5 at *
  case' neg =>
    have hs0' : 0 < s := by omega
    have e0 : ((s : Int) == 0) = false := beq_eq_false_iff_ne.2 (by omega)
    have hl1 := lshVU hb ho yb 0 n hcap yc V s w2 (by omega) (by omega) hs0' HF.out.2.2.2.2.2.2.2.2.1 hwh hry (.inl hyh)
    go_wp2_with fail
    refine hl1.mono ?_
    rintro e w3 ⟨rfl, hw3⟩
    have hrx3 := hw3.rd_out hrx (.inl hxh)
    have hwu3 : Wb w3 ub 0 ucap := hw3.wb u3
    have hl2 := lshVU ub 0 xb 0 (m + n) ucap xc U s w3 (by omega) (by omega) hs0' HF.out.2.2.2.2.2.2.2.2.1 (hwu3.mono (by omega)) hrx3 (.inl hxu)
    have htopd : dig U (m + n - 1) / 2 ^ (64 - s) = dig (U * 2 ^ s) (m + n) := by
      rw [dig_top HF.out.2.2.2.2.2.2.2.1, lsh_top (by omega) HF.out.2.2.1 (by have := HF.out.2.2.2.2.2.2.2.2.1; omega)]
    rw [htopd] at hl2
    have HT0 := Lib.hid hw3
    clear hw3 hl1 hrx3 hrx hry hwh htopd hs0
    go_wp2_with fail
    refine hl2.mono ?_
    rintro e w4 ⟨rfl, hw4⟩
    obtain ⟨v0, hc0⟩ := (hw4.wb hwu3).cell (i := m + n) (by omega)
    have hf0 := (hw4.wb hwu3).frozen (m + n)
    rw [Nat.zero_add] at hc0
    have hw5 := hw4.snoc hwu3 (by omega) (v := .int .u64 (dig (U * 2 ^ s) (m + n) : Nat)) rfl
    rw [Nat.zero_add] at hw5
    obtain ⟨top, htp⟩ : ∃ x, x = dig (U * 2 ^ s) (m + n) := ⟨_, rfl⟩
    rw [← htp] at hw5 ⊢
    clear htp
    have HT := Lib.hid (And.intro HT0.out hw5)
    clear hw4 hw5 HT0 hl2 hwu3 u3 u4 u5
    go_wp2_with fail
    clear hc0 hf0 e0 hs0'
    generalize w4.setCell ⟨ub, m + n, none⟩ (.int .u64 (top : Nat)) = w5 at *
  all_goals
    obtain ⟨hw3, hw5⟩ := HT.out
    obtain ⟨hhu, u3, u4, u5, hwh, hb1⟩ := HU.out
    obtain ⟨hz, hz2, hzS, hz2S, hxS, hyS, hzz, hxz, hyz, hG7, hz7⟩ := HZ.out
    obtain ⟨k3, k4, k5, k7, k8, k10, k11, k12, k13⟩ := HK.out
    have d1 : Chg (fun k => S k ∨ z2.ownBlock = some k ∨ w.heap.size ≤ k) w w1 := k11.mono (fun k _ h => .inl h)
    have d2 := d1.trans u4 (U := fun k => S k ∨ z2.ownBlock = some k ∨ w.heap.size ≤ k) (fun k h => h) (fun k _ h => h.elim)
    have d3 := d2.trans hw3.chg (U := fun k => S k ∨ z2.ownBlock = some k ∨ w.heap.size ≤ k) (fun k h => h) (fun k hk h => by
      subst h
      rcases k10 with h | ⟨h, _⟩
      · omega
      · exact .inl h)
    have d5 := d3.trans hw5.chg (U := fun k => S k ∨ z2.ownBlock = some k ∨ w.heap.size ≤ k) (fun k h => h) (fun k hk h => by
      subst h
      rcases u5 with h | h
      · exact .inr (.inl h)
      · exact .inr (.inr (by omega)))
    have hzD : Off (fun k => S k ∨ z2.ownBlock = some k ∨ w.heap.size ≤ k) z := fun k hk h => by
      rcases h with h | h | h
      · exact hzS k hk h
      · exact hzz k h hk
      · have := hz.lt k hk; omega
    have hz5 : St w5 z := hz.keep d5 hzD
    have hu5 : St w5 (.slice (some ⟨ub, 0, none⟩) (m + n + 1) ucap) := .inr ⟨ub, _, ucap, rfl, u1, u2, hw5.wb (hw3.wb u3)⟩
    have hal := alias_other z _ w5 hz5 hu5 (fun k hk h => by
      simp [Value.ownBlock] at hk; subst hk
      rcases u5 with h1 | h1
      · exact hzz _ h1 h
      · have := hz.lt _ h; omega)
    have g7 : w5.cell? ⟨7, 0, none⟩ = some (.int .i64 40) := d5.cell hG (by rintro (h | h | h); exact hG7 h; exact hz7 h; dsimp only at h; omega)
    refine hal.mono ?_
    rintro e w6 ⟨rfl, nd, rfl⟩
    have hmq := make_any z (m + 1) (w5.drewN nd) hz5 (by omega) (by omega)
    rw [show ((m + 1 : Nat) : Int) = (m : Int) + 1 by omega] at hmq
    have HD := Lib.hid (And.intro d5 g7)
    clear hal hw3 hw5 hhu u3 u4 u5 hwh hb1 hz hz2 hzS hz2S hxS hyS hzz hxz hyz hG7 hz7 k3 k4 k5 k7 k8 k10 k11 k12 k13 d1 d2 d3 d5 hzD hz5 hu5 g7
    go_wp2_with fail
    refine hmq.mono ?_
    rintro e w7 ⟨qb, qc, rfl, q1, q2, q3, q4, q5⟩
    clear hmq
    obtain ⟨hw3, hw5⟩ := HT.out
    obtain ⟨hhu, u3, u4, u5, hwh, hb1⟩ := HU.out
    obtain ⟨hz, hz2, hzS, hz2S, hxS, hyS, hzz, hxz, hyz, hG7, hz7⟩ := HZ.out
    obtain ⟨k3, k4, k5, k7, k8, k10, k11, k12, k13⟩ := HK.out
    obtain ⟨d5, g7⟩ := HD.out
    obtain ⟨hV0, hVn, hUn, f1, f2, f3, f4, f5, hs1, _, _⟩ := HF.out
    have hsz5 : w5.heap.size = w3.heap.size := hw5.size
    have hsz3 : w3.heap.size = w2.heap.size := hw3.size
    have hsz2 := u4.size
    have hub5 := (hw5.wb (hw3.wb u3)).lt
    have q4' := q4.undrewN
    have hsz7 := q4'.size
    have q5' : z.ownBlock = some qb ∨ qb = w5.heap.size := q5
    have hqu : qb ≠ ub := by
      rintro rfl
      rcases q5' with h | h
      · rcases u5 with h1 | h1
        · exact hzz _ h1 h
        · have := hz.lt _ h; omega
      · omega
    have hqh : qb ≠ hb := by
      rintro rfl
      rcases q5' with h | h
      · rcases k10 with h1 | ⟨h1, _⟩
        · have := hz.lt _ h; omega
        · exact hzS _ h h1
      · omega
    have huw7 : Wb w7 ub 0 ucap := q4'.wb (hw5.wb (hw3.wb u3)) (fun h => h)
    have hu7 : Rd w7 ub 0 (m + n + 1) (U * 2 ^ s) := q4'.rd hw5.rd hub5 (fun h => h)
    have hhlt : hb < w5.heap.size := by omega
    have hv7 : Rd w7 hb ho n (V * 2 ^ s) := q4'.rd (hw5.rd_out hw3.rd (.inl hhu)) hhlt (fun h => h)
    have hSu : ¬ (S' ub ∧ ub < w1.heap.size) := fun h => by
      rcases u5 with h1 | h1
      · rcases k5 _ h.1 with h2 | h2
        · exact hz2S _ h1 h2
        · have := hz2.lt _ h1; omega
      · omega
    have hSq : ¬ (S' qb ∧ qb < w1.heap.size) := fun h => by
      rcases q5' with h1 | h1
      · rcases k5 _ h.1 with h2 | h2
        · exact hzS _ h1 h2
        · have := hz.lt _ h1; omega
      · omega
    have hStk7 : Stk w7 sb l' (fun k => S' k ∧ k < w1.heap.size) :=
      (((k4.inside.keep u4 (fun k _ h => h)).wr' hw3 hwh (by omega)).keep hw5.chg (fun k hk h => hSu (by subst h; exact hk))).keep q4' (fun k _ h => h)
    have hdb := divBasic qb qc ub ucap hb ho hcap sb l' (m + 1) n (U * 2 ^ s) (V * 2 ^ s) (fun k => S' k ∧ k < w1.heap.size) w7 hV2 (by omega) (by omega) (by omega) u2 (q3.mono (by omega)) (huw7.mono (by omega))
      (by rw [show m + 1 + n = m + n + 1 by omega]; exact hu7) hv7 (by omega) f4 (by rw [show m + 1 + n - 1 = m + n by omega]; exact f3) f2 f1 hStk7 (fun k hk => by have := hk.2; omega) hSq hSu (k7.imp (fun h h2 => h h2.1) id) hqu hqh (Ne.symm hhu)
    rw [show m + 1 + n = m + n + 1 by omega] at hdb
    have g77 : w7.cell? ⟨7, 0, none⟩ = some (.int .i64 40) := q4'.cell g7 (fun h => h)
    have hc7 := d5.trans q4' (U := fun k => S k ∨ z2.ownBlock = some k ∨ w.heap.size ≤ k) (fun k h => h) (fun k _ h => h.elim)
    have HE := Lib.hid (And.intro hc7 (And.intro huw7 (And.intro hSu (And.intro hSq (And.intro hqu (And.intro q5' hsz7))))))
    clear hw3 hw5 hhu u3 u4 u5 hwh hb1 hz hz2 hzS hz2S hxS hyS hzz hxz hyz hG7 hz7 k3 k4 k5 k7 k8 k10 k11 k12 k13 d5 g7 hV0 hVn hUn f1 f2 f3 f4 f5 hs1 hc7 huw7 hu7 hv7 hSu hSq hStk7 hqu hqh q4 q5 q4' q5'
    go_wp2_with fail
    refine hdb.mono ?_
    rintro e w8 ⟨rfl, r1, r2, r3, r4, r5, S3, r6, r7⟩
    clear hdb g77
    have hqb7 := q3.lt
    rw [scale_div] at r1
    rw [scale_mod, show m + 1 + n = m + n + 1 by omega] at r2
    have hQlt : U / V < B ^ (m + 1) := by
      obtain ⟨hV0, hVn, hUn, f1, f2, f3, f4, f5, hs1, _, _⟩ := HF.out
      refine (Nat.div_lt_iff_lt_mul (Nat.pos_of_ne_zero hV0)).2 ?_
      rw [Nat.mul_comm]
      refine Nat.lt_of_mul_lt_mul_right (a := 2 ^ s) ?_
      rw [Nat.mul_right_comm]; exact f4
    have hRlt : U % V * 2 ^ s < B ^ (m + n + 1) := Nat.lt_of_le_of_lt (Nat.mul_le_mul_right _ (Nat.mod_le _ _)) HF.out.2.2.2.2.2.2.2.1
    have hRlt0 : U % V < B ^ (m + n + 1) := Nat.lt_of_le_of_lt (Nat.le_mul_of_pos_right _ (Nat.two_pow_pos s)) hRlt
    have hnq := norm_any qb 0 (m + 1) qc (U / V) w8 q1 q2 hQlt r1
    have hqw8 := r5 _ _ _ q3
    have huw8 := r5 _ _ _ HE.out.2.1
    have hc8 : Chg (fun k => z.ownBlock = some k ∨ z2.ownBlock = some k ∨ S k) w w8 := by
      obtain ⟨hc7, huw7, hSu, hSq, hqu, q5', hsz7⟩ := HE.out
      obtain ⟨hhu, u3, u4, u5, hwh, hb1⟩ := HU.out
      refine hc7.trans r4 (fun k h => ?_) (fun k hk h => ?_) |>.mono (S := fun k => z.ownBlock = some k ∨ z2.ownBlock = some k ∨ S k ∨ w.heap.size ≤ k) (fun k hk h => ?_)
      · rcases h with h | h | h
        · exact .inr (.inr (.inl h))
        · exact .inr (.inl h)
        · exact .inr (.inr (.inr h))
      · rcases h with rfl | rfl | h
        · rcases q5' with h | h
          · exact .inl h
          · omega
        · rcases u5 with h | h
          · exact .inr (.inl h)
          · omega
        · rcases HK.out.2.2.1 _ h.1 with h | h
          · exact .inr (.inr (.inl h))
          · omega
      · rcases h with h | h | h | h
        · exact .inl h
        · exact .inr (.inl h)
        · exact .inr (.inr h)
        · omega
    have HS := Lib.hid (And.intro r1 (And.intro r2 (And.intro r6 (And.intro r7 (And.intro hQlt (And.intro hRlt (And.intro hRlt0 (And.intro hqw8 (And.intro huw8 hc8)))))))))
    clear r1 r2 r3 r4 r5 r6 r7 hQlt hRlt hRlt0 hqw8 huw8 hc8
    go_wp2_with fail
    refine hnq.mono ?_
    rintro e w' ⟨rfl, rfl⟩
    clear hnq
    by_cases hs0 : s = 0
    · obtain ⟨r1, r2, r6, r7, hQlt, hRlt, hRlt0, hqw8, huw8, hc8⟩ := HS.out
      have e1 : ((s : Int) != 0) = false := by rw [hs0]; rfl
      rw [hs0, Nat.pow_zero, Nat.mul_one] at r2
      have hnr := norm_any ub 0 (m + n + 1) ucap (U % V) w8 u1 u2 hRlt0 r2
      have hend := fun e w10 => divLarge_end (z := z) (z2 := z2) (sb := sb) (l := l) (S := S) (w := w) (w9 := w8) (w10 := w10) (e := e) (qc := qc) (ub := ub) (ucap := ucap) hc8 (.inr ⟨qb, qc, rfl, Nat.le_trans (wlen_le hQlt) q1, q2, hqw8, r1.take (wlen_le hQlt)⟩) (.inr ⟨ub, ucap, rfl, Nat.le_trans (wlen_le hRlt0) u1, u2, huw8, r2.take (wlen_le hRlt0)⟩)
        HE.out.2.2.2.2.1 (HE.out.2.2.2.2.2.1.imp id (fun h => by omega)) (HU.out.2.2.2.1.imp id (fun h => by omega)) (S3 := S3) (fun k hk => by
          rcases r7 k hk with h | h
          · exact HK.out.2.2.1 _ h.1
          · have := HE.out.2.2.2.2.2.2; exact .inr (by omega)) (fun h => by
          rcases r7 _ h with h1 | h1
          · exact HE.out.2.2.2.1 h1
          · have := hqb7; omega) (fun h => by
          rcases r7 _ h with h1 | h1
          · exact HE.out.2.2.1 h1
          · have := HE.out.2.1.lt; omega)
      have hrd := fun u => stack_restore_d u w8 sb l' l S3 r6 HK.out.2.2.2.2.1
      have HEND := Lib.hid (And.intro hend hrd)
      clear r1 r2 r6 r7 hQlt hRlt hRlt0 hqw8 huw8 hc8 hend hrd hs0
      go_wp2_with fail
      refine hnr.mono ?_
      rintro e w' ⟨rfl, rfl⟩
      clear hnr
      go_wp2
      refine leaves_cons (f := 94) (args := #[.pointer (some ⟨sb, 0, none⟩), .int .i64 l]) (by simp) (by simp [go_sem]) ?_
      refine (HEND.out.2 _).mono ?_
      rintro e u' w10 ⟨rfl, hQ, hStk⟩
      have hfin := HEND.out.1 e w10 hQ hStk
      obtain rfl := hQ.1
      obtain ⟨S', ⟨v, v2, he, hrest⟩, hSS⟩ := hfin
      cases he
      exact ⟨_, results_tmp2 rfl _ _ _, S', ⟨.slice (some ⟨qb, 0, none⟩) (wlen (U / V)) qc, .slice (some ⟨ub, 0, none⟩) (wlen (U % V)) ucap, rfl, hrest⟩, hSS⟩
    · obtain ⟨r1, r2, r6, r7, hQlt, hRlt, hRlt0, hqw8, huw8, hc8⟩ := HS.out
      have e1 : ((s : Int) != 0) = true := by rw [bne_iff_ne]; omega
      have hrs := rshVU ub 0 ub 0 (m + n + 1) ucap ucap (U % V * 2 ^ s) s w8 (by omega) (by omega) (by omega) HF.out.2.2.2.2.2.2.2.2.1 hRlt (huw8.mono (by omega)) r2 (.inr (.inl (Nat.le_refl _)))
      rw [Nat.mul_div_cancel _ (Nat.two_pow_pos s)] at hrs
      clear r1 r2 r6 r7 hQlt hRlt hRlt0 hqw8 huw8 hc8
      go_wp2_with fail
      refine hrs.mono ?_
      rintro e w9 ⟨⟨c9, rfl⟩, hw9⟩
      clear hrs
      obtain ⟨r1, r2, r6, r7, hQlt, hRlt, hRlt0, hqw8, huw8, hc8⟩ := HS.out
      have hSu9 : ¬ S3 ub := fun h => by
        rcases r7 _ h with h1 | h1
        · exact HE.out.2.2.1 h1
        · have h2 := HE.out.2.1.lt; omega
      have hnr := norm_any ub 0 (m + n + 1) ucap (U % V) w9 u1 u2 hRlt0 hw9.rd
      have hc9 : Chg (fun k => z.ownBlock = some k ∨ z2.ownBlock = some k ∨ S k) w w9 := hc8.trans hw9.chg (fun k h => h) (fun k hk h => by
        subst h
        rcases HU.out.2.2.2.1 with h | h
        · exact .inr (.inl h)
        · omega)
      have hend := fun e w10 => divLarge_end (z := z) (z2 := z2) (sb := sb) (l := l) (S := S) (w := w) (w9 := w9) (w10 := w10) (e := e) (qc := qc) (ub := ub) (ucap := ucap) hc9
        (.inr ⟨qb, qc, rfl, Nat.le_trans (wlen_le hQlt) q1, q2, hw9.wb hqw8, (hw9.rd_out r1 (.inl HE.out.2.2.2.2.1)).take (wlen_le hQlt)⟩) (.inr ⟨ub, ucap, rfl, Nat.le_trans (wlen_le hRlt0) u1, u2, hw9.wb huw8, hw9.rd.take (wlen_le hRlt0)⟩)
        HE.out.2.2.2.2.1 (HE.out.2.2.2.2.2.1.imp id (fun h => by omega)) (HU.out.2.2.2.1.imp id (fun h => by omega)) (S3 := S3) (fun k hk => by
          rcases r7 k hk with h | h
          · exact HK.out.2.2.1 _ h.1
          · have := HE.out.2.2.2.2.2.2; exact .inr (by omega)) (fun h => by
          rcases r7 _ h with h1 | h1
          · exact HE.out.2.2.2.1 h1
          · have := hqb7; omega) (fun h => by
          rcases r7 _ h with h1 | h1
          · exact HE.out.2.2.1 h1
          · have := HE.out.2.1.lt; omega)
      have hrd := fun u => stack_restore_d u w9 sb l' l S3 (r6.keep hw9.chg (fun k hk h => hSu9 (h ▸ hk))) HK.out.2.2.2.2.1
      have HEND := Lib.hid (And.intro hend hrd)
      clear r1 r2 r6 r7 hQlt hRlt hRlt0 hqw8 huw8 hc8 hend hrd hs0 hw9 hc9 hSu9
      go_wp2_with fail
      refine hnr.mono ?_
      rintro e w' ⟨rfl, rfl⟩
      clear hnr
      go_wp2
      refine leaves_cons (f := 94) (args := #[.pointer (some ⟨sb, 0, none⟩), .int .i64 l]) (by simp) (by simp [go_sem]) ?_
      refine (HEND.out.2 _).mono ?_
      rintro e u' w10 ⟨rfl, hQ, hStk⟩
      have hfin := HEND.out.1 e w10 hQ hStk
      obtain rfl := hQ.1
      obtain ⟨S', ⟨v, v2, he, hrest⟩, hSS⟩ := hfin
      cases he
      exact ⟨_, results_tmp2 rfl _ _ _, S', ⟨.slice (some ⟨qb, 0, none⟩) (wlen (U / V)) qc, .slice (some ⟨ub, 0, none⟩) (wlen (U % V)) ucap, rfl, hrest⟩, hSS⟩
end Go.Proofs.YtbnmgopobmiadaaGreatDoor
