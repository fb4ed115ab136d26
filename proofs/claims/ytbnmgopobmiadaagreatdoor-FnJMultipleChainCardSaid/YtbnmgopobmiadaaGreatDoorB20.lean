/- Contract of divBasic. -/
import Derived.Test.YtbnmgopobmiadaaGreatDoorB16
import Derived.Test.YtbnmgopobmiadaaGreatDoorA1
import Derived.Outline
import Derived.Lib.SliceRun
import Derived.RegionTactic
import Derived.Deep.RegionWith

set_option linter.unusedSimpArgs false
set_option linter.unusedVariables false

namespace Go.Proofs.YtbnmgopobmiadaaGreatDoor
open Go.RowKit

/-- what divBasic leaves -/
def Based (qb ub vb vo sb l m n U V : Nat) (S : Nat → Prop) (w : World) (e : Ending) (w' : World) : Prop :=
  e = .returned (.tuple #[]) ∧ Rd w' qb 0 m (U / V) ∧ Rd w' ub 0 (m + n) (U % V) ∧ Rd w' vb vo n V ∧ Chg (fun k => k = qb ∨ k = ub ∨ S k) w w' ∧ (∀ b o m, Wb w b o m → Wb w' b o m) ∧
    (∃ S', Stk w' sb l S' ∧ ∀ k, S' k → S k ∨ w.heap.size ≤ k)

theorem SNat.apart {w w1 : World} {sb l n N : Nat} {S S' : Nat → Prop} {hb ho : Nat} {qb ub vb vo m : Nat} (hq : Wb w qb 0 m) (huw : Wb w ub 0 (m + n)) (hn2 : 2 ≤ n)
    (hv : vb < w.heap.size) (hSq : ¬ S qb) (hSu : ¬ S ub) (hSv : ¬ S vb ∨ vo + n ≤ l) (hqu : qb ≠ ub) (hqv : qb ≠ vb) (huv : ub ≠ vb)
    (k3 : Wb w1 hb ho (n + 1)) (k5 : ∀ k, S' k → S k ∨ w.heap.size ≤ k) (k10 : w.heap.size ≤ hb ∨ S hb ∧ l ≤ ho) (k12 : ∀ b o m, Wb w b o m → Wb w1 b o m) :
    Apart w1 qb ub vb vo hb ho m n S' := by
  have h1 := hq.lt; have h2 := huw.lt
  refine ⟨hqu, hqv, huv, ?_, ?_, ?_, fun h => ?_, fun h => ?_, hn2, k12 _ _ _ hq, k12 _ _ _ huw, k3⟩
  · rintro rfl; rcases k10 with h | ⟨h, _⟩; omega; exact hSq h
  · rintro rfl; rcases k10 with h | ⟨h, _⟩; omega; exact hSu h
  · by_cases e : vb = hb
    · subst e
      rcases k10 with h | ⟨h, h'⟩
      · omega
      · rcases hSv with h3 | h3
        · exact absurd h h3
        · exact .inr (by omega)
    · exact .inl e
  · rcases k5 _ h with h | h; exact hSq h; omega
  · rcases k5 _ h with h | h; exact hSu h; omega

theorem Wr.again {w w1 w2 : World} {b o n X Y : Nat} (h : Wr w w1 b o n X) (h' : Wr w1 w2 b o n Y) : Wr w w2 b o n Y := by
  obtain ⟨c, c', e, h1, h2, h3, h4, h5⟩ := h.blk
  obtain ⟨d, d', e', k1, k2, k3, k4, k5⟩ := h'.blk
  rw [h2] at k1; cases k1
  exact ⟨h'.os.trans h.os, h'.tape.trans h.tape, h'.output.trans h.output, h'.size.trans h.size, fun j hj => (h'.other j hj).trans (h.other j hj), c, d', e, h1, k2, k3.trans h3, fun j hj => (k4 j hj).trans (h4 j hj), k5⟩

theorem first_top {U V A j m n ujn : Nat} (h : j = m) (hA : A = ucur U V (j + 1)) (hujn : ujn = dig A (j + n)) (hUV : U < V * B ^ m) (hVn : V < B ^ n) (hn : 2 ≤ n) : ujn = 0 := by
  subst h
  rw [hujn, hA, ucur_self _ hUV (by omega)]
  refine dig_of_lt ?_
  rw [Nat.add_comm, Nat.pow_add]
  exact Nat.lt_trans hUV (Nat.mul_lt_mul_of_pos_right hVn (Bpow_pos _))
theorem first_zero {U V A j m n ujn u1 u2 vn1 vn2 q : Nat} (h : j = m) (hA : A = ucur U V (j + 1)) (hujn : ujn = dig A (j + n)) (hu1 : u1 = dig A (j + n - 1)) (hu2 : u2 < B) (hv1 : vn1 = dig V (n - 1))
    (hUV : U < V * B ^ m) (htop : dig U (m + n - 1) < dig V (n - 1)) (hVn : V < B ^ n) (hn : 2 ≤ n) (hq : q = ((ujn * B + u1) * B + u2) / (vn1 * B + vn2)) : q = 0 := by
  have h0 := first_top h hA hujn hUV hVn hn
  subst h
  rw [hA, ucur_self _ hUV (by omega)] at hu1
  rw [hq, h0, Nat.zero_mul, Nat.zero_add]
  refine Nat.div_eq_of_lt ?_
  have : (u1 + 1) * B ≤ vn1 * B := Nat.mul_le_mul_right B (by omega)
  rw [Nat.add_mul] at this
  omega

set_option maxHeartbeats 16000000 in
set_option maxRecDepth 100000 in
theorem divBasic (qb qc ub uc vb vo vc sb l m n U V : Nat) (S : Nat → Prop) (w : World) (hn2 : 2 ≤ n) (hmn : m + n ≤ 100000) (hl : l ≤ 100000) (hu0 : m + n ≤ uc) (huc : uc ≤ 4611686018427387904)
    (hq : Wb w qb 0 m) (huw : Wb w ub 0 (m + n)) (hu : Rd w ub 0 (m + n) U) (hv : Rd w vb vo n V) (hvl : vb < w.heap.size) (hUV : U < V * B ^ m) (htop : dig U (m + n - 1) < dig V (n - 1)) (hV : B ^ n ≤ 2 * V) (hVn : V < B ^ n)
    (hS : Stk w sb l S) (hSl : ∀ k, S k → k < w.heap.size) (hSq : ¬ S qb) (hSu : ¬ S ub) (hSv : ¬ S vb ∨ vo + n ≤ l) (hqu : qb ≠ ub) (hqv : qb ≠ vb) (huv : ub ≠ vb) :
    Calls Tryz.prog 175 #[.slice (some ⟨qb, 0, none⟩) m qc, .pointer (some ⟨sb, 0, none⟩), .slice (some ⟨ub, 0, none⟩) (m + n) uc, .slice (some ⟨vb, vo, none⟩) n vc] w (Based qb ub vb vo sb l m n U V S w) := by
  have hsave := stack_save w sb l S hS
  have hnat := stack_nat w sb l (n + 1) S hS hSl (by omega) (by omega)
  rw [show ((n + 1 : Nat) : Int) = (n : Int) + 1 by omega] at hnat
  obtain ⟨vn1, hvn1⟩ : ∃ x, x = dig V (n - 1) := ⟨_, rfl⟩
  obtain ⟨vn2, hvn2⟩ : ∃ x, x = dig V (n - 2) := ⟨_, rfl⟩
  have hvB : vn1 < B := hvn1 ▸ dig_lt _ _
  have hv2 : B ≤ 2 * vn1 := by rw [hvn1]; exact top_half (by omega) hV hVn
  have hrec := fun w => reciprocalWord vn1 w (by have := B_pos; omega) hvB
  obtain ⟨rc, hrc⟩ : ∃ x, x = recip (vn1 * 2 ^ nlzN vn1) := ⟨_, rfl⟩
  rw [← hrc] at hrec
  go_enter_defers Tryz.func175, Tryz.ntmps175
  go_wp2_with fail
  refine hsave.mono ?_
  rintro e w' ⟨rfl, rfl⟩
  go_wp2_with fail
  refine hnat.mono ?_
  rintro e w1 ⟨hb, ho, hcap, l', S', rfl, k1, k2, k3, k4, k5, k6, k7, k8, k9, k10, k11, k12, k13⟩
  have hv1 : Rd w1 vb vo n V := k13 _ _ _ _ hvl hv hSv
  have hap := SNat.apart (N := n) (sb := sb) (w := w) (w1 := w1) hq huw hn2 hvl hSq hSu hSv hqu hqv huv k3 k5 k10 k12
  have hcv := hv1 (n - 1) (by omega)
  rw [wd, ← hvn1] at hcv
  have hdb : DB w1 qb ub vb vo hb ho sb l' m n S' V U w1 := ⟨k13 _ _ _ _ huw.lt hu (.inl hSu), hv1, k4, Chg.refl _ _, fun _ _ _ h => h⟩
  have HP := Lib.hid hap
  have HK := Lib.hid (And.intro k5 (And.intro k6 (And.intro k7 (And.intro k8 (And.intro k9 (And.intro k10 (And.intro k11 k12)))))))
  have HV := Lib.hid (And.intro hvB (And.intro hv2 (And.intro hrc (And.intro hvn1 (And.intro hvn2 (And.intro hUV (And.intro htop (And.intro hV hVn))))))))
  clear k3 k4 k5 k6 k7 k8 k9 k10 k11 k12 k13 hv1 hS hSl hSq hSu hSv hqu hqv huv hq huw hu hv hvl hsave hnat hvB hv2 hrc hvn1 hvn2 hUV htop hV hVn
  go_wp2_with fail
  refine (hrec _).mono ?_
  rintro e w' ⟨rfl, nd, rfl⟩
  clear hrec
  go_wp2
  go_loopw [13, 14] (fun uj i wr => ∃ k : Nat, k ≤ m + 1 ∧ i = .int .i64 ((k : Int) - 1) ∧ uj = .int .u64 (dig (ucur U V k) (k + n - 1) : Nat) ∧ DB w1 qb ub vb vo hb ho sb l' m n S' V (ucur U V k) wr ∧ Qs wr qb m (U / V) k) (fun _ i _ => (intOf i + 1).toNat)
  case atStart =>
    obtain ⟨hvB, hv2, hrc, hvn1, hvn2, hUV, htop, hV, hVn⟩ := HV.out
    refine ⟨m + 1, Nat.le_refl _, by rw [show ((m + 1 : Nat) : Int) - 1 = (m : Int) by omega], ?_, ?_, ?_⟩
    · rw [ucur_self (m + 1) hUV (by omega), dig_of_lt]
      · rfl
      · rw [show m + 1 + n - 1 = n + m by omega, Nat.pow_add]
        exact Nat.lt_trans hUV (Nat.mul_lt_mul_of_pos_right hVn (Bpow_pos m))
    · rw [ucur_self (m + 1) hUV (by omega)]; exact hdb.drewN nd
    · intro i hi; omega
  case round =>
    obtain ⟨k, hk, rfl, rfl, hD, hQ⟩ := hrel
    by_cases hk0 : k = 0
    · subst hk0
      have hk0' : ¬ (0 : Int) ≤ ((0 : Nat) : Int) - 1 := by omega
      go_wp2
      obtain ⟨k5, k6, k7, k8, k9, k10, k11, k12⟩ := HK.out
      refine leaves_cons (f := 94) (args := #[.pointer (some ⟨sb, 0, none⟩), .int .i64 l]) (by simp) (by simp [go_sem]) ?_
      refine (stack_restore_d _ _ sb l' l S' hD.stk k8).mono ?_
      rintro e u' w'' ⟨rfl, ⟨rfl, q1, q2, q3⟩, hStk⟩
      refine ⟨_, results_none rfl _ _ _, rfl, ?_, ?_, q3 _ _ _ _ hD.v, ?_, fun b o m h => q2 _ _ _ (hD.wb _ _ _ (k12 _ _ _ h)), S', hStk, k5⟩
      · have := q3 _ _ _ _ hQ
        simpa using this
      · have := q3 _ _ _ _ hD.u
        rw [ucur_zero] at this; exact this
      · refine (k11.mono (fun k _ h => .inr (.inr h))).trans (hD.chg.trans q1 (U := fun x => x = qb ∨ x = ub ∨ x = hb ∨ S' x) (fun k h => by omega) (fun k _ h => .inr (.inr (.inr h)))) (fun k h => h) (fun k hk h => ?_)
        rcases h with h | h | h | h
        · exact .inl h
        · exact .inr (.inl h)
        · subst h
          rcases k10 with h | ⟨h, _⟩
          · omega
          · exact .inr (.inr h)
        · rcases k5 k h with h | h
          · exact .inr (.inr h)
          · omega
    · obtain ⟨j, rfl⟩ : ∃ j, k = j + 1 := ⟨k - 1, by omega⟩
      have hj : j ≤ m := by omega
      rw [show ((j + 1 : Nat) : Int) - 1 = (j : Int) by omega, show j + 1 + n - 1 = j + n by omega]
      obtain ⟨A, hA⟩ : ∃ A, A = ucur U V (j + 1) := ⟨_, rfl⟩
      rw [← hA] at hD ⊢
      have hV0 : 0 < V := by
        have h9 := HV.out.2.2.2.2.2.2.2.1
        have := Bpow_pos n; omega
      have hWn : A / B ^ j < B ^ (n + 1) := by rw [hA]; exact win_lt hV0 HV.out.2.2.2.2.2.2.2.2
      have hWV : A / B ^ j < V * B := by rw [hA]; exact win_lt2 hV0
      have hWd : ∀ i, dig (A / B ^ j) i = dig A (j + i) := fun i => by rw [dig_shift, Nat.add_comm]
      have HW := Lib.hid (And.intro hV0 (And.intro hWn (And.intro hWV hWd)))
      clear hV0 hWn hWV hWd
      obtain ⟨ujn, hujn⟩ : ∃ x, x = dig A (j + n) := ⟨_, rfl⟩
      obtain ⟨u1, hu1⟩ : ∃ x, x = dig A (j + n - 1) := ⟨_, rfl⟩
      obtain ⟨u2, hu2⟩ : ∃ x, x = dig A (j + n - 2) := ⟨_, rfl⟩
      rw [← hujn]
      have hu1B : u1 < B := hu1 ▸ dig_lt _ _
      have hu2B : u2 < B := hu2 ▸ dig_lt _ _
      have c1 : wr.cell? ⟨ub, j + n - 1, none⟩ = some (.int .u64 u1) := by
        have := hD.u (j + n - 1) (by omega); rw [Nat.zero_add, wd, ← hu1] at this; exact this
      have c2 : wr.cell? ⟨ub, j + n - 2, none⟩ = some (.int .u64 u2) := by
        have := hD.u (j + n - 2) (by omega); rw [Nat.zero_add, wd, ← hu2] at this; exact this
      have c3 : wr.cell? ⟨vb, vo + (n - 2), none⟩ = some (.int .u64 vn2) := by
        have := hD.v (n - 2) (by omega); rw [wd, ← HV.out.2.2.2.2.1] at this; exact this
      have t1 : ((j : Int) + n - 1).toNat = j + n - 1 := by omega
      have t2 : ((j : Int) + n - 2).toNat = j + n - 2 := by omega
      have t3 : ((n : Int) - 2).toNat = n - 2 := by omega
      by_cases hne : ujn = vn1
      · have e1 : ((ujn : Int) != vn1) = false := by rw [hne]; simp
        obtain ⟨qh, hqh⟩ : ∃ q, q = B - 1 := ⟨_, rfl⟩
        have hl : (18446744073709551615 : Int) = ((qh : Nat) : Int) := by rw [hqh]; unfold B; omega
        have HA := Lib.hid (And.intro hA (And.intro hujn (And.intro hne (And.intro hqh (And.intro hD hQ)))))
        have HL := Lib.hid hl
        clear hA hujn hu1 hu2 hD hQ hu1B hu2B hap hdb hk0 hl hqh hne
        go_wp2_with fail
        rw [HL.out]
        have hqhB : qh < B := by have := HA.out.2.2.2.1; have := B_pos; omega
        have hW : A / B ^ j / V ≤ qh ∧ qh ≤ A / B ^ j / V + 1 := by
          obtain ⟨hA, hujn, hne, hqh, hD, hQ⟩ := HA.out
          have := guess_words_max hn2 HV.out.2.2.2.2.2.2.2.1 HV.out.2.2.2.2.2.2.2.2 HW.out.2.1 HW.out.2.2.1 (by rw [HW.out.2.2.2, ← hujn, hne, HV.out.2.2.2.1])
          rw [hqh]; exact this
        have hqm : j = m → False := fun h => by
          obtain ⟨hA, hujn, hne, hqh, hD, hQ⟩ := HA.out
          have := first_top h hA hujn HV.out.2.2.2.2.2.1 HV.out.2.2.2.2.2.2.2.2 hn2
          have := HV.out.2.1; have := B_pos; omega
        have hA := HA.out.1
        have hD := HA.out.2.2.2.2.1
        have hQ := HA.out.2.2.2.2.2
        clear HA HL c1 c2 c3 t1 t2 t3 e1
        have HT := Lib.hid (And.intro hA (And.intro hD hQ))
        clear hA hD hQ
        obtain ⟨hA, hD, hQ⟩ := HT.out
        obtain ⟨hvB, hv2, hrc, hvn1, hvn2, hUV, htop, hV, hVn⟩ := HV.out
        refine (mulAddVWW hb ho vb vo n hcap vc V qh 0 wr (by omega) hqhB B_pos ((hD.wb _ _ _ HP.out.h).mono (by omega)) hD.v (by have := HP.out.vh; omega)).mono ?_
        rintro e w2 ⟨rfl, hw2⟩
        have hVq : V * qh + 0 < B ^ (n + 1) := by
          rw [Nat.add_zero, Nat.pow_succ]
          exact Nat.mul_lt_mul_of_lt_of_lt hVn hqhB
        have hca : cmul V qh 0 n = dig (V * qh + 0) n := by rw [dig_top hVq, cmul_top hVn]
        rw [hca]
        have hwbh := hw2.wb (hD.wb _ _ _ HP.out.h)
        obtain ⟨v0, hzc⟩ := hwbh.cell (i := n) (by omega)
        have hzf := hwbh.frozen (ho + n)
        have hw3 := hw2.snoc (hD.wb _ _ _ HP.out.h) (by omega) (v := .int .u64 (dig (V * qh + 0) n : Nat)) rfl
        have hD3 := hD.hat HP.out hw3
        have hch := hw3.cell_in (i := n) (by omega)
        by_cases hjm : j = m
        · exact (hqm hjm).elim
        · have HX := Lib.hid (And.intro hw3 (And.intro hD3 (And.intro hqhB (And.intro hW hVq))))
          generalize dig (V * qh + 0) n = top at *
          clear hw3 hD3 hqhB hW hqm hVq hw2 hca hwbh hA hD hQ hvB hv2 hrc hvn1 hvn2 hUV htop hV hVn
          have hjm' : ((j : Int) == m) = false := beq_eq_false_iff_ne.2 (by omega)
          have hlt' : ¬ (m : Int) + n < (j : Int) + (n + 1) := by omega
          go_wp2
          generalize w2.setCell ⟨hb, ho + n, none⟩ (.int .u64 (top : Nat)) = w3 at *
          have s1 : IntKind.i64.wrap ((j : Int) + ((n : Int) + 1)) = (j : Int) + (n + 1) := by rw [IntKind.wrap_i64]; omega
          have s2 : ((j : Int) + (n + 1)).toNat = j + (n + 1) := by omega
          have s3 : (j : Int) + (n + 1) ≤ uc := by omega
          have s4 : ¬ uc = j := by omega
          have s5 : ((n : Int) + 1).toNat = n + 1 := by omega
          have s6 : (n : Int) + 1 ≤ hcap := by omega
          have s7 : (j : Int) ≤ (j : Int) + (n + 1) := by omega
          have s8 : (0 : Int) ≤ (n : Int) + 1 := by omega
          have s9 : (0 : Int) ≤ (j : Int) + (n + 1) := by omega
          have s10 : j + (n + 1) ≤ uc := by omega
          have s11 : j + (n + 1) - j = n + 1 := by omega
          have s12 : j ≤ uc := by omega
          have s13 : (j : Int) ≤ uc := by omega
          have s14 : (n : Int) + 1 ≤ n + 1 := by omega
          go_still_tail 15, (by kernel_rfl)
          change wpList _ _ _ _ _ w3.drew
          clear s1 s2 s3 s4 s5 s6 s7 s8 s9 s10 s11 s12 s13 s14
          go_wp2_with fail
          obtain ⟨hw3, hD3, hqhB, hW, hVq⟩ := HX.out
          have hWd := HW.out.2.1
          have hru : Rd w3 ub j (n + 1) (A / B ^ j) := by
            have := hD3.u.drop (k := j) (by omega)
            rw [Nat.zero_add] at this
            exact this.take (by omega)
          refine (subVV ub j ub j hb ho (n + 1) (uc - j) (uc - j) hcap (A / B ^ j) (V * qh + 0) w3.drew (by omega) hWd hVq ((hD3.wb _ _ _ HP.out.uw).mono (by omega)) hru hw3.rd (by omega) (.inl HP.out.uh.symm)).mono ?_
          rintro e w4 ⟨rfl, hw4'⟩
          have hw4 := hw4'.undrew
          clear hw4'
          have hjq : j < m := by omega
          obtain ⟨hA, hD, hQ⟩ := HT.out
          have hV0 := HW.out.1
          rw [bsub_top hWd hVq]
          by_cases hcase : qh = A / B ^ j / V
          · obtain ⟨z1, z2⟩ := sub_right (n := n) hcase
            rw [if_neg z2]
            have hD4 : DB w1 qb ub vb vo hb ho sb l' m n S' V (ucur U V j) w4 := by
              refine hD3.sub HP.out hw4 (fun i hi h => ?_) (fun i hi => ?_)
              · rw [hA]; exact ucur_out hV0 HV.out.2.2.2.2.2.2.2.2 h
              · rw [ucur_in, ← hA, z1, dig_add_pow _ _ _ hi]
            have c5 : w4.cell? ⟨ub, j + n - 1, none⟩ = some (.int .u64 (dig (ucur U V j) (j + n - 1) : Nat)) := by
              have := hD4.u (j + n - 1) (by omega); rw [Nat.zero_add] at this; exact this
            obtain ⟨vq, c6⟩ := (hD4.wb _ _ _ HP.out.q).cell (i := j) hjq
            have c7 := (hD4.wb _ _ _ HP.out.q).frozen j
            rw [Nat.zero_add] at c6
            obtain ⟨uj', huj'⟩ : ∃ x, x = dig (ucur U V j) (j + n - 1) := ⟨_, rfl⟩
            rw [← huj'] at c5
            have HE := Lib.hid (And.intro huj' (And.intro hD4 (And.intro hcase (And.intro hw3 (And.intro hw4 hQ)))))
            clear huj' hD4 hcase hw3 hw4 hQ hA hD hV0 hWd hru hVq hW hqhB hD3 z1 z2
            go_wp2
            obtain ⟨huj', hD4, hcase, hw3, hw4, hQ⟩ := HE.out
            have hqd : qh = dig (U / V) j := by rw [hcase, HT.out.1, ucur_dig]
            refine ⟨⟨j, by omega, rfl, by rw [huj'], hD4.put HP.out j _, hQ.put hjq (fun i => ?_) (hD4.wb _ _ _ HP.out.q) hqd⟩, by simp [intOf]⟩
            rw [hw4.cell_out (.inl HP.out.qu), hw3.cell_out (.inl HP.out.qh)]
          · have hcase' : qh = A / B ^ j / V + 1 := by omega
            obtain ⟨z1, z2⟩ := sub_over (n := n) hV0 hcase' hVq
            rw [if_pos z2]
            generalize A / B ^ j + B ^ (n + 1) - (V * qh + 0) = Z at *
            have hv4 : Rd w4 vb vo n V := hw4.rd_out hD3.v (.inl HP.out.uv.symm)
            have huw4 : Wb w4 ub 0 (m + n) := hw4.wb (hD3.wb _ _ _ HP.out.uw)
            have HE := Lib.hid (And.intro hcase' (And.intro hw3 (And.intro hD3 (And.intro hw4 (And.intro hQ (And.intro z1 (And.intro hqhB (And.intro hv4 huw4))))))))
            clear hcase hcase' hw3 hw4 hQ hA hD hV0 hWd hru hVq hW hqhB hD3 z1 z2 hv4 huw4
            go_wp2
            have s1 : IntKind.i64.wrap ((j : Int) + (n : Int)) = (j : Int) + n := by rw [IntKind.wrap_i64]; omega
            have s2 : ((j : Int) + n).toNat = j + n := by omega
            have s3 : (j : Int) + n ≤ uc := by omega
            have s4 : ¬ uc = j := by omega
            have s7 : (j : Int) ≤ (j : Int) + n := by omega
            have s8 : (0 : Int) ≤ (n : Int) := by omega
            have s9 : (0 : Int) ≤ (j : Int) + n := by omega
            have s10 : j + n ≤ uc := by omega
            have s11 : j + n - j = n := by omega
            have s12 : j ≤ uc := by omega
            have s13 : (j : Int) ≤ uc := by omega
            go_still_tail 13, (by kernel_rfl)
            change wpList _ _ _ _ _ w4.drew
            clear s1 s2 s3 s4 s7 s8 s9 s10 s11 s12 s13
            go_wp2_with fail
            obtain ⟨hcase', hw3, hD3, hw4, hQ, z1, hqhB, hv4, huw4⟩ := HE.out
            have hVn := HV.out.2.2.2.2.2.2.2.2
            refine (addVV ub j ub j vb vo n (uc - j) (uc - j) vc Z V w4.drew (by omega) (huw4.mono (by omega)) (hw4.rd.take (by omega)) hv4 (by omega) (.inl HP.out.uv.symm)).mono ?_
            rintro e w5 ⟨rfl, hw5'⟩
            have hw5 := hw5'.undrew
            clear hw5'
            have hA := HT.out.1
            have h9 := cadd_dig Z V 0 n
            obtain ⟨zn, hzn⟩ : ∃ x, x = dig Z n := ⟨_, rfl⟩
            obtain ⟨xn, hxn⟩ : ∃ x, x = dig (Z + V) n := ⟨_, rfl⟩
            rw [dig_of_lt hVn, Nat.add_zero, Nat.add_zero, ← hzn, ← hxn] at h9
            have c8 : w5.cell? ⟨ub, j + n, none⟩ = some (.int .u64 zn) := by
              rw [hw5.cell_out (.inr (.inr (by dsimp only; omega))), hw4.cell_in (by omega), wd, hzn]
            have c9 : w5.frozen? ⟨ub, j + n, none⟩ = false := (hw5.wb huw4).frozen _
            have hw6 := hw5.snoc (huw4.mono (o' := j) (n' := n + 1) (by omega)) (by omega) (v := .int .u64 (xn : Nat)) (by rw [wd, hxn])
            have hw7 := hw4.again hw6
            obtain ⟨ca, hca⟩ : ∃ x, x = cadd Z V 0 n := ⟨_, rfl⟩
            rw [← hca] at h9 ⊢
            have f1 : IntKind.u64.wrap ((zn : Int) + (ca : Nat)) = (xn : Nat) := by
              rw [IntKind.wrap_u64]; unfold B at h9; omega
            obtain ⟨qm, hqm1⟩ : ∃ qm, qh = qm + 1 := ⟨_, hcase'⟩
            have f2 : IntKind.u64.wrap ((qh : Int) - 1) = (qm : Nat) := by
              rw [IntKind.wrap_u64]; unfold B at hqhB; omega
            have hltn : (n : Int) < (n : Int) + 1 := by omega
            have hD5 : DB w1 qb ub vb vo hb ho sb l' m n S' V (ucur U V j) (w5.setCell ⟨ub, j + n, none⟩ (.int .u64 (xn : Nat))) := by
              refine hD3.sub HP.out hw7 (fun i hi h => ?_) (fun i hi => ?_)
              · rw [hA]; exact ucur_out HW.out.1 hVn h
              · rw [ucur_in, ← hA, z1, dig_add_pow _ _ _ hi]
            have c5 : (w5.setCell ⟨ub, j + n, none⟩ (.int .u64 (xn : Nat))).cell? ⟨ub, j + n - 1, none⟩ = some (.int .u64 (dig (ucur U V j) (j + n - 1) : Nat)) := by
              have := hD5.u (j + n - 1) (by omega); rw [Nat.zero_add] at this; exact this
            obtain ⟨vq, c6⟩ := (hD5.wb _ _ _ HP.out.q).cell (i := j) hjq
            have c7 := (hD5.wb _ _ _ HP.out.q).frozen j
            rw [Nat.zero_add] at c6
            obtain ⟨uj', huj'⟩ : ∃ x, x = dig (ucur U V j) (j + n - 1) := ⟨_, rfl⟩
            rw [← huj'] at c5
            have HE2 := Lib.hid (And.intro huj' (And.intro hD5 (And.intro hcase' (And.intro hw3 (And.intro hw7 (And.intro hQ hqm1))))))
            clear hqm1 huj' hD5 hcase' hw3 hD3 hw4 hQ z1 hqhB hv4 huw4 hVn hw5 hA hzn hxn h9 hw6 hw7 hca HE
            go_wp2
            obtain ⟨huj', hD5, hcase', hw3, hw7, hQ, hqm1⟩ := HE2.out
            have hqd : qm = dig (U / V) j := by rw [← ucur_dig, ← HT.out.1]; rw [hqm1] at hcase'; exact Nat.succ.inj hcase'
            refine ⟨⟨j, by omega, rfl, by rw [huj'], hD5.put HP.out j _, hQ.put hjq (fun i => ?_) (hD5.wb _ _ _ HP.out.q) hqd⟩, by simp [intOf]⟩
            rw [hw7.cell_out (.inl HP.out.qu), hw3.cell_out (.inl HP.out.qh)]
      · have e1 : ((ujn : Int) != vn1) = true := by rw [bne_iff_ne]; omega
        obtain ⟨hvB, hv2, hrc, hvn1, hvn2, hUV, htop, hV, hVn⟩ := HV.out
        have hlt : ujn < vn1 := by
          have := top_le (W := A / B ^ j) (by omega) hVn HW.out.2.2.1
          rw [HW.out.2.2.2, ← hujn, ← hvn1] at this; omega
        have hdw := divWW ujn u1 vn1 rc wr (by omega) hvB hlt hu1B hrc
        obtain ⟨q0, hq0⟩ : ∃ x, x = dvq ujn u1 vn1 := ⟨_, rfl⟩
        obtain ⟨r0, hr0⟩ : ∃ x, x = dvr ujn u1 vn1 := ⟨_, rfl⟩
        have hq0B : q0 < B := by rw [hq0]; exact dvq_lt hlt hu1B
        have hv2B : vn2 < B := hvn2 ▸ dig_lt _ _
        rw [← hq0, ← hr0] at hdw
        have hmw := mulWW q0 vn2 wr hq0B hv2B
        obtain ⟨x1, hx1⟩ : ∃ x, x = q0 * vn2 / B := ⟨_, rfl⟩
        obtain ⟨x2, hx2⟩ : ∃ x, x = q0 * vn2 % B := ⟨_, rfl⟩
        rw [← hx1, ← hx2] at hmw
        have HA := Lib.hid (And.intro hA (And.intro hujn (And.intro hu1 (And.intro hu2 (And.intro hq0 (And.intro hr0 (And.intro hx1 (And.intro hx2 (And.intro hlt (And.intro hD (And.intro hQ (And.intro hu1B (And.intro hu2B (And.intro hq0B hv2B))))))))))))))
        clear hA hujn hu1 hu2 hq0 hr0 hx1 hx2 hlt hD hQ hvB hv2 hrc hvn1 hvn2 hUV htop hV hVn hu1B hu2B hq0B hv2B hne hap hdb hk0
        go_wp2_with fail
        refine hdw.mono ?_
        rintro e w' ⟨rfl, rfl⟩
        go_wp2_with fail
        refine hmw.mono ?_
        rintro e w' ⟨rfl, rfl⟩
        go_wp2
        go_loop [15, 16, 18, 19] (fun qv rv xv yv => ∃ q r x1 x2 : Nat, Guess vn1 vn2 (ujn * B + u1) u2 q r ∧ r < B ∧ q < B ∧ x1 * B + x2 = q * vn2 ∧ x2 < B ∧ qv = .int .u64 q ∧ rv = .int .u64 r ∧ xv = .int .u64 x1 ∧ yv = .int .u64 x2) (fun qv _ _ _ => (intOf qv).toNat)
        case atStart =>
          obtain ⟨hA, hujn, hu1, hu2, hq0, hr0, hx1, hx2, hlt, hD, hQ, hu1B, hu2B, hq0B, hv2B⟩ := HA.out
          have hs := Guess.start (vn1 := vn1) (vn2 := vn2) (ujn := ujn) (u1 := u1) (u2 := u2) (by omega) hu2B
          refine ⟨q0, r0, x1, x2, ?_, ?_, hq0B, ?_, ?_, rfl, rfl, rfl, rfl⟩
          · rw [hq0, hr0]; exact hs
          · rw [hr0]; exact Nat.lt_trans (Nat.mod_lt _ (by omega)) HV.out.1
          · rw [hx1, hx2, Nat.mul_comm _ B]; exact Nat.div_add_mod _ _
          · rw [hx2]; exact Nat.mod_lt _ B_pos
        case round =>
          obtain ⟨q, r, x1, x2, hG, hrB, hqB, hx, hx2B, rfl, rfl, rfl, rfl⟩ := hrel
          have hv0 : 0 < vn1 := by have := HV.out.2.1; have := B_pos; omega
          have hgt := greaterThan x1 x2 r u2 wr hx2B HA.out.2.2.2.2.2.2.2.2.2.2.2.2.1
          by_cases hc : r * B + u2 < q * vn2
          · rw [hx, decide_eq_true hc] at hgt
            obtain ⟨hq0, hG2⟩ := hG.yes hv0 hc
            have f1 : IntKind.u64.wrap ((q : Int) - 1) = (q - 1 : Nat) := by
              rw [← wrap_nat (n := q - 1) (by omega)]; congr 1; omega
            by_cases ho : r + vn1 < B
            · have f2 : IntKind.u64.wrap ((r : Int) + vn1) = (r + vn1 : Nat) := by rw [← wrap_nat ho]; rfl
              have f3 : ¬ ((r + vn1 : Nat) : Int) < vn1 := by omega
              have hqv : (q - 1) * vn2 + vn2 = q * vn2 := by
                obtain ⟨p, rfl⟩ : ∃ p, q = p + 1 := ⟨q - 1, by omega⟩
                rw [Nat.add_sub_cancel, Nat.add_mul, Nat.one_mul]
              have hm : q - 1 < q := by omega
              have hq1B : q - 1 < B := by omega
              have hv2B := HA.out.2.2.2.2.2.2.2.2.2.2.2.2.2.2
              by_cases hb2 : x2 < vn2
              · have hx1 : 0 < x1 := by
                  refine Nat.pos_of_ne_zero fun h => ?_
                  rw [h, Nat.zero_mul] at hx; omega
                have f4 : IntKind.u64.wrap ((x1 : Int) - 1) = (x1 - 1 : Nat) := by
                  have h9 : x1 < B := by
                    refine Nat.lt_of_mul_lt_mul_right (a := B) ?_
                    have : q * vn2 < B * B := Nat.mul_lt_mul_of_lt_of_lt hqB hv2B
                    omega
                  rw [← wrap_nat (n := x1 - 1) (by omega)]; congr 1; omega
                have f5 : IntKind.u64.wrap ((x2 : Int) - vn2) = (x2 + B - vn2 : Nat) := by
                  rw [IntKind.wrap_u64]; unfold B at *; omega
                have f6 : (x2 : Int) < vn2 := by omega
                have hy : (x1 - 1) * B + (x2 + B - vn2) = (q - 1) * vn2 := by
                  obtain ⟨p, rfl⟩ : ∃ p, x1 = p + 1 := ⟨x1 - 1, by omega⟩
                  rw [Nat.add_mul] at hx
                  rw [Nat.add_sub_cancel]; omega
                have hyB : x2 + B - vn2 < B := by omega
                generalize q - 1 = q' at *
                generalize r + vn1 = r' at *
                generalize x1 - 1 = y1 at *
                generalize x2 + B - vn2 = y2 at *
                have HR := Lib.hid (And.intro hG2 (And.intro ho (And.intro hq1B (And.intro hy (And.intro hyB hm)))))
                clear hG2 ho hq1B hy hyB hm hG hrB hqB hx hx2B hc hv0 hq0 hqv hv2B hx1 hb2
                go_wp2_with fail
                refine hgt.mono ?_
                rintro e w' ⟨rfl, rfl⟩
                clear hgt
                go_wp2
                go_round
                case rel => obtain ⟨hG2, ho, hq1B, hy, hyB, hm⟩ := HR.out; exact ⟨q', r', y1, y2, hG2, ho, hq1B, hy, hyB, rfl, rfl, rfl, rfl⟩
                case measure => obtain ⟨hG2, ho, hq1B, hy, hyB, hm⟩ := HR.out; simp [intOf]; omega
              · have f5 : IntKind.u64.wrap ((x2 : Int) - vn2) = (x2 - vn2 : Nat) := wrap_dn (by omega) hx2B
                have f6 : ¬ (x2 : Int) < vn2 := by omega
                have hy : x1 * B + (x2 - vn2) = (q - 1) * vn2 := by omega
                have hyB : x2 - vn2 < B := by omega
                generalize q - 1 = q' at *
                generalize r + vn1 = r' at *
                generalize x2 - vn2 = y2 at *
                have HR := Lib.hid (And.intro hG2 (And.intro ho (And.intro hq1B (And.intro hy (And.intro hyB hm)))))
                clear hG2 ho hq1B hy hyB hm hG hrB hqB hx hx2B hc hv0 hq0 hqv hv2B hb2
                go_wp2_with fail
                refine hgt.mono ?_
                rintro e w' ⟨rfl, rfl⟩
                clear hgt
                go_wp2
                go_round
                case rel => obtain ⟨hG2, ho, hq1B, hy, hyB, hm⟩ := HR.out; exact ⟨q', r', x1, y2, hG2, ho, hq1B, hy, hyB, rfl, rfl, rfl, rfl⟩
                case measure => obtain ⟨hG2, ho, hq1B, hy, hyB, hm⟩ := HR.out; simp [intOf]; omega
            · have hE := hG2.big hv0 (HA.out.2.2.2.2.2.2.2.2.2.2.2.2.2.2) (by omega) (by omega)
              have f2 : IntKind.u64.wrap ((r : Int) + vn1) = (r + vn1 - B : Nat) := by
                have := HV.out.1
                rw [IntKind.wrap_u64]; unfold B at *; omega
              have f3 : ((r + vn1 - B : Nat) : Int) < vn1 := by omega
              have hqhB : q - 1 < B := by omega
              generalize q - 1 = qh at *
              generalize r + vn1 - B = r' at *
              have HR := Lib.hid (And.intro hE hqhB)
              clear hG hG2 hE hqhB hqB hrB hx hx2B hc hv0 hq0 ho
              go_wp2_with fail
              refine hgt.mono ?_
              rintro e w' ⟨rfl, rfl⟩
              clear hgt
              go_wp2_with fail
              have hqhB : qh < B := HR.out.2
              have hW : A / B ^ j / V ≤ qh ∧ qh ≤ A / B ^ j / V + 1 := by
                obtain ⟨hE, hqB⟩ := HR.out
                refine guess_words hn2 HV.out.2.2.2.2.2.2.2.1 HV.out.2.2.2.2.2.2.2.2 HW.out.2.1 ?_ hqB
                rw [HW.out.2.2.2, HW.out.2.2.2, HW.out.2.2.2, show j + (n - 1) = j + n - 1 by omega, show j + (n - 2) = j + n - 2 by omega, ← HA.out.2.1, ← HA.out.2.2.1, ← HA.out.2.2.2.1, ← HV.out.2.2.2.1, ← HV.out.2.2.2.2.1]
                exact hE
              have hqm : j = m → qh = 0 := fun h => first_zero h HA.out.1 HA.out.2.1 HA.out.2.2.1 HA.out.2.2.2.2.2.2.2.2.2.2.2.2.1 HV.out.2.2.2.1 HV.out.2.2.2.2.2.1 HV.out.2.2.2.2.2.2.1 HV.out.2.2.2.2.2.2.2.2 hn2 HR.out.1
              have hA := HA.out.1
              have hD := HA.out.2.2.2.2.2.2.2.2.2.1
              have hQ := HA.out.2.2.2.2.2.2.2.2.2.2.1
              clear HA HR c1 c2 c3 t1 t2 t3 e1
              have HT := Lib.hid (And.intro hA (And.intro hD hQ))
              clear hA hD hQ
              obtain ⟨hA, hD, hQ⟩ := HT.out
              obtain ⟨hvB, hv2, hrc, hvn1, hvn2, hUV, htop, hV, hVn⟩ := HV.out
              refine (mulAddVWW hb ho vb vo n hcap vc V qh 0 wr (by omega) hqhB B_pos ((hD.wb _ _ _ HP.out.h).mono (by omega)) hD.v (by have := HP.out.vh; omega)).mono ?_
              rintro e w2 ⟨rfl, hw2⟩
              have hVq : V * qh + 0 < B ^ (n + 1) := by
                rw [Nat.add_zero, Nat.pow_succ]
                exact Nat.mul_lt_mul_of_lt_of_lt hVn hqhB
              have hca : cmul V qh 0 n = dig (V * qh + 0) n := by rw [dig_top hVq, cmul_top hVn]
              rw [hca]
              have hwbh := hw2.wb (hD.wb _ _ _ HP.out.h)
              obtain ⟨v0, hzc⟩ := hwbh.cell (i := n) (by omega)
              have hzf := hwbh.frozen (ho + n)
              have hw3 := hw2.snoc (hD.wb _ _ _ HP.out.h) (by omega) (v := .int .u64 (dig (V * qh + 0) n : Nat)) rfl
              have hD3 := hD.hat HP.out hw3
              have hch := hw3.cell_in (i := n) (by omega)
              by_cases hjm : j = m
              · obtain rfl := hqm hjm
                subst hjm
                rw [show dig (V * 0 + 0) n = 0 by rw [Nat.mul_zero]; exact dig_of_lt (Bpow_pos n)] at *
                have hAU : A = U := by rw [hA]; exact ucur_self _ hUV (by omega)
                have hWlt : A / B ^ j < V := by rw [hAU]; exact (Nat.div_lt_iff_lt_mul (Bpow_pos j)).2 hUV
                have HX := Lib.hid (And.intro hw3 (And.intro hD3 (And.intro hAU hWlt)))
                clear hw3 hD3 hqhB hW hqm hVq hw2 hca hwbh hA hD hQ hvB hv2 hrc hvn1 hvn2 hUV htop hV hVn hAU hWlt
                have hlt' : (j : Int) + n < (j : Int) + (n + 1) := by omega
                go_wp2
                generalize w2.setCell ⟨hb, ho + n, none⟩ (.int .u64 ((0 : Nat) : Nat)) = w3 at *
                have s1 : IntKind.i64.wrap ((j : Int) + (n : Int)) = (j : Int) + n := by rw [IntKind.wrap_i64]; omega
                have s2 : ((j : Int) + (n : Int)).toNat = j + n := by omega
                have s3 : (j : Int) + n ≤ uc := by omega
                have s4 : ¬ uc = j := by omega
                have s6 : (n : Int) ≤ hcap := by omega
                have s7 : (j : Int) ≤ (j : Int) + n := by omega
                have s9 : (0 : Int) ≤ (j : Int) + n := by omega
                have s10 : j + n ≤ uc := by omega
                have s11 : j + n - j = n := by omega
                have s12 : j ≤ uc := by omega
                have s13 : (j : Int) ≤ uc := by omega
                have s14 : (n : Int) ≤ n + 1 := by omega
                go_still_tail 15, (by kernel_rfl)
                change wpList _ _ _ _ _ w3.drew
                clear s1 s2 s3 s4 s6 s7 s9 s10 s11 s12 s13 s14
                go_wp2_with fail
                obtain ⟨hw3, hD3, hAU, hWlt⟩ := HX.out
                obtain ⟨hA, hD, hQ⟩ := HT.out
                have hVn := HV.out.2.2.2.2.2.2.2.2
                have hUV := HV.out.2.2.2.2.2.1
                have hWd := HW.out.2.2.2
                have hX0 : A / B ^ j < B ^ n := Nat.lt_trans hWlt hVn
                have hY0 : V * 0 + 0 < B ^ n := by rw [Nat.mul_zero]; exact Bpow_pos n
                have hru : Rd w3 ub j n (A / B ^ j) := by
                  have := hD3.u.drop (k := j) (by omega)
                  rw [Nat.zero_add] at this
                  exact this.take (by omega)
                refine (subVV ub j ub j hb ho n (uc - j) (uc - j) hcap (A / B ^ j) (V * 0 + 0) w3.drew (by omega) hX0 hY0 ((hD3.wb _ _ _ HP.out.uw).mono (by omega)) hru (hw3.rd.take (by omega)) (by omega) (.inl HP.out.uh.symm)).mono ?_
                rintro e w4 ⟨rfl, hw4'⟩
                have hw4 := hw4'.undrew
                clear hw4'
                rw [bsub_top hX0 hY0, if_neg (by rw [Nat.mul_zero]; exact Nat.not_lt_zero _)]
                have hcu : ucur U V j = A := by rw [hAU]; exact ucur_self _ hUV (Nat.le_refl _)
                have hD4 : DB w1 qb ub vb vo hb ho sb l' j n S' V (ucur U V j) w4 := by
                  refine hD3.sub HP.out hw4 (fun i hi h => by rw [hcu]) (fun i hi => ?_)
                  rw [hcu, ← hWd, Nat.mul_zero, Nat.add_zero, Nat.sub_zero, dig_add_pow _ _ _ hi]
                have hQ4 : Qs w4 qb j (U / V) j := by
                  unfold Qs at *
                  rw [Nat.min_eq_right (by omega)] at hQ
                  rw [Nat.min_self]
                  exact fun i hi => by rw [hw4.cell_out (.inl HP.out.qu), hw3.cell_out (.inl HP.out.qh)]; exact hQ i hi
                have c5 : w4.cell? ⟨ub, j + n - 1, none⟩ = some (.int .u64 (dig (ucur U V j) (j + n - 1) : Nat)) := by
                  have := hD4.u (j + n - 1) (by omega); rw [Nat.zero_add] at this; exact this
                obtain ⟨uj', huj'⟩ : ∃ x, x = dig (ucur U V j) (j + n - 1) := ⟨_, rfl⟩
                rw [← huj'] at c5
                have HE := Lib.hid (And.intro huj' (And.intro hD4 hQ4))
                clear huj' hD4 hQ4 hQ hA hD hw3 hw4 hD3 hAU hWlt hX0 hY0 hru hcu hWd hUV hVn
                go_wp2
                obtain ⟨huj', hD4, hQ4⟩ := HE.out
                exact ⟨⟨j, by omega, rfl, by rw [huj'], hD4, hQ4⟩, by simp [intOf]⟩
              · have HX := Lib.hid (And.intro hw3 (And.intro hD3 (And.intro hqhB (And.intro hW hVq))))
                generalize dig (V * qh + 0) n = top at *
                clear hw3 hD3 hqhB hW hqm hVq hw2 hca hwbh hA hD hQ hvB hv2 hrc hvn1 hvn2 hUV htop hV hVn
                have hjm' : ((j : Int) == m) = false := beq_eq_false_iff_ne.2 (by omega)
                have hlt' : ¬ (m : Int) + n < (j : Int) + (n + 1) := by omega
                go_wp2
                generalize w2.setCell ⟨hb, ho + n, none⟩ (.int .u64 (top : Nat)) = w3 at *
                have s1 : IntKind.i64.wrap ((j : Int) + ((n : Int) + 1)) = (j : Int) + (n + 1) := by rw [IntKind.wrap_i64]; omega
                have s2 : ((j : Int) + (n + 1)).toNat = j + (n + 1) := by omega
                have s3 : (j : Int) + (n + 1) ≤ uc := by omega
                have s4 : ¬ uc = j := by omega
                have s5 : ((n : Int) + 1).toNat = n + 1 := by omega
                have s6 : (n : Int) + 1 ≤ hcap := by omega
                have s7 : (j : Int) ≤ (j : Int) + (n + 1) := by omega
                have s8 : (0 : Int) ≤ (n : Int) + 1 := by omega
                have s9 : (0 : Int) ≤ (j : Int) + (n + 1) := by omega
                have s10 : j + (n + 1) ≤ uc := by omega
                have s11 : j + (n + 1) - j = n + 1 := by omega
                have s12 : j ≤ uc := by omega
                have s13 : (j : Int) ≤ uc := by omega
                have s14 : (n : Int) + 1 ≤ n + 1 := by omega
                go_still_tail 15, (by kernel_rfl)
                change wpList _ _ _ _ _ w3.drew
                clear s1 s2 s3 s4 s5 s6 s7 s8 s9 s10 s11 s12 s13 s14
                go_wp2_with fail
                obtain ⟨hw3, hD3, hqhB, hW, hVq⟩ := HX.out
                have hWd := HW.out.2.1
                have hru : Rd w3 ub j (n + 1) (A / B ^ j) := by
                  have := hD3.u.drop (k := j) (by omega)
                  rw [Nat.zero_add] at this
                  exact this.take (by omega)
                refine (subVV ub j ub j hb ho (n + 1) (uc - j) (uc - j) hcap (A / B ^ j) (V * qh + 0) w3.drew (by omega) hWd hVq ((hD3.wb _ _ _ HP.out.uw).mono (by omega)) hru hw3.rd (by omega) (.inl HP.out.uh.symm)).mono ?_
                rintro e w4 ⟨rfl, hw4'⟩
                have hw4 := hw4'.undrew
                clear hw4'
                have hjq : j < m := by omega
                obtain ⟨hA, hD, hQ⟩ := HT.out
                have hV0 := HW.out.1
                rw [bsub_top hWd hVq]
                by_cases hcase : qh = A / B ^ j / V
                · obtain ⟨z1, z2⟩ := sub_right (n := n) hcase
                  rw [if_neg z2]
                  have hD4 : DB w1 qb ub vb vo hb ho sb l' m n S' V (ucur U V j) w4 := by
                    refine hD3.sub HP.out hw4 (fun i hi h => ?_) (fun i hi => ?_)
                    · rw [hA]; exact ucur_out hV0 HV.out.2.2.2.2.2.2.2.2 h
                    · rw [ucur_in, ← hA, z1, dig_add_pow _ _ _ hi]
                  have c5 : w4.cell? ⟨ub, j + n - 1, none⟩ = some (.int .u64 (dig (ucur U V j) (j + n - 1) : Nat)) := by
                    have := hD4.u (j + n - 1) (by omega); rw [Nat.zero_add] at this; exact this
                  obtain ⟨vq, c6⟩ := (hD4.wb _ _ _ HP.out.q).cell (i := j) hjq
                  have c7 := (hD4.wb _ _ _ HP.out.q).frozen j
                  rw [Nat.zero_add] at c6
                  obtain ⟨uj', huj'⟩ : ∃ x, x = dig (ucur U V j) (j + n - 1) := ⟨_, rfl⟩
                  rw [← huj'] at c5
                  have HE := Lib.hid (And.intro huj' (And.intro hD4 (And.intro hcase (And.intro hw3 (And.intro hw4 hQ)))))
                  clear huj' hD4 hcase hw3 hw4 hQ hA hD hV0 hWd hru hVq hW hqhB hD3 z1 z2
                  go_wp2
                  obtain ⟨huj', hD4, hcase, hw3, hw4, hQ⟩ := HE.out
                  have hqd : qh = dig (U / V) j := by rw [hcase, HT.out.1, ucur_dig]
                  refine ⟨⟨j, by omega, rfl, by rw [huj'], hD4.put HP.out j _, hQ.put hjq (fun i => ?_) (hD4.wb _ _ _ HP.out.q) hqd⟩, by simp [intOf]⟩
                  rw [hw4.cell_out (.inl HP.out.qu), hw3.cell_out (.inl HP.out.qh)]
                · have hcase' : qh = A / B ^ j / V + 1 := by omega
                  obtain ⟨z1, z2⟩ := sub_over (n := n) hV0 hcase' hVq
                  rw [if_pos z2]
                  generalize A / B ^ j + B ^ (n + 1) - (V * qh + 0) = Z at *
                  have hv4 : Rd w4 vb vo n V := hw4.rd_out hD3.v (.inl HP.out.uv.symm)
                  have huw4 : Wb w4 ub 0 (m + n) := hw4.wb (hD3.wb _ _ _ HP.out.uw)
                  have HE := Lib.hid (And.intro hcase' (And.intro hw3 (And.intro hD3 (And.intro hw4 (And.intro hQ (And.intro z1 (And.intro hqhB (And.intro hv4 huw4))))))))
                  clear hcase hcase' hw3 hw4 hQ hA hD hV0 hWd hru hVq hW hqhB hD3 z1 z2 hv4 huw4
                  go_wp2
                  have s1 : IntKind.i64.wrap ((j : Int) + (n : Int)) = (j : Int) + n := by rw [IntKind.wrap_i64]; omega
                  have s2 : ((j : Int) + n).toNat = j + n := by omega
                  have s3 : (j : Int) + n ≤ uc := by omega
                  have s4 : ¬ uc = j := by omega
                  have s7 : (j : Int) ≤ (j : Int) + n := by omega
                  have s8 : (0 : Int) ≤ (n : Int) := by omega
                  have s9 : (0 : Int) ≤ (j : Int) + n := by omega
                  have s10 : j + n ≤ uc := by omega
                  have s11 : j + n - j = n := by omega
                  have s12 : j ≤ uc := by omega
                  have s13 : (j : Int) ≤ uc := by omega
                  go_still_tail 13, (by kernel_rfl)
                  change wpList _ _ _ _ _ w4.drew
                  clear s1 s2 s3 s4 s7 s8 s9 s10 s11 s12 s13
                  go_wp2_with fail
                  obtain ⟨hcase', hw3, hD3, hw4, hQ, z1, hqhB, hv4, huw4⟩ := HE.out
                  have hVn := HV.out.2.2.2.2.2.2.2.2
                  refine (addVV ub j ub j vb vo n (uc - j) (uc - j) vc Z V w4.drew (by omega) (huw4.mono (by omega)) (hw4.rd.take (by omega)) hv4 (by omega) (.inl HP.out.uv.symm)).mono ?_
                  rintro e w5 ⟨rfl, hw5'⟩
                  have hw5 := hw5'.undrew
                  clear hw5'
                  have hA := HT.out.1
                  have h9 := cadd_dig Z V 0 n
                  obtain ⟨zn, hzn⟩ : ∃ x, x = dig Z n := ⟨_, rfl⟩
                  obtain ⟨xn, hxn⟩ : ∃ x, x = dig (Z + V) n := ⟨_, rfl⟩
                  rw [dig_of_lt hVn, Nat.add_zero, Nat.add_zero, ← hzn, ← hxn] at h9
                  have c8 : w5.cell? ⟨ub, j + n, none⟩ = some (.int .u64 zn) := by
                    rw [hw5.cell_out (.inr (.inr (by dsimp only; omega))), hw4.cell_in (by omega), wd, hzn]
                  have c9 : w5.frozen? ⟨ub, j + n, none⟩ = false := (hw5.wb huw4).frozen _
                  have hw6 := hw5.snoc (huw4.mono (o' := j) (n' := n + 1) (by omega)) (by omega) (v := .int .u64 (xn : Nat)) (by rw [wd, hxn])
                  have hw7 := hw4.again hw6
                  obtain ⟨ca, hca⟩ : ∃ x, x = cadd Z V 0 n := ⟨_, rfl⟩
                  rw [← hca] at h9 ⊢
                  have f1 : IntKind.u64.wrap ((zn : Int) + (ca : Nat)) = (xn : Nat) := by
                    rw [IntKind.wrap_u64]; unfold B at h9; omega
                  obtain ⟨qm, hqm1⟩ : ∃ qm, qh = qm + 1 := ⟨_, hcase'⟩
                  have f2 : IntKind.u64.wrap ((qh : Int) - 1) = (qm : Nat) := by
                    rw [IntKind.wrap_u64]; unfold B at hqhB; omega
                  have hltn : (n : Int) < (n : Int) + 1 := by omega
                  have hD5 : DB w1 qb ub vb vo hb ho sb l' m n S' V (ucur U V j) (w5.setCell ⟨ub, j + n, none⟩ (.int .u64 (xn : Nat))) := by
                    refine hD3.sub HP.out hw7 (fun i hi h => ?_) (fun i hi => ?_)
                    · rw [hA]; exact ucur_out HW.out.1 hVn h
                    · rw [ucur_in, ← hA, z1, dig_add_pow _ _ _ hi]
                  have c5 : (w5.setCell ⟨ub, j + n, none⟩ (.int .u64 (xn : Nat))).cell? ⟨ub, j + n - 1, none⟩ = some (.int .u64 (dig (ucur U V j) (j + n - 1) : Nat)) := by
                    have := hD5.u (j + n - 1) (by omega); rw [Nat.zero_add] at this; exact this
                  obtain ⟨vq, c6⟩ := (hD5.wb _ _ _ HP.out.q).cell (i := j) hjq
                  have c7 := (hD5.wb _ _ _ HP.out.q).frozen j
                  rw [Nat.zero_add] at c6
                  obtain ⟨uj', huj'⟩ : ∃ x, x = dig (ucur U V j) (j + n - 1) := ⟨_, rfl⟩
                  rw [← huj'] at c5
                  have HE2 := Lib.hid (And.intro huj' (And.intro hD5 (And.intro hcase' (And.intro hw3 (And.intro hw7 (And.intro hQ hqm1))))))
                  clear hqm1 huj' hD5 hcase' hw3 hD3 hw4 hQ z1 hqhB hv4 huw4 hVn hw5 hA hzn hxn h9 hw6 hw7 hca HE
                  go_wp2
                  obtain ⟨huj', hD5, hcase', hw3, hw7, hQ, hqm1⟩ := HE2.out
                  have hqd : qm = dig (U / V) j := by rw [← ucur_dig, ← HT.out.1]; rw [hqm1] at hcase'; exact Nat.succ.inj hcase'
                  refine ⟨⟨j, by omega, rfl, by rw [huj'], hD5.put HP.out j _, hQ.put hjq (fun i => ?_) (hD5.wb _ _ _ HP.out.q) hqd⟩, by simp [intOf]⟩
                  rw [hw7.cell_out (.inl HP.out.qu), hw3.cell_out (.inl HP.out.qh)]
          · rw [hx, decide_eq_false hc] at hgt
            have hE := hG.no hv0 (by omega)
            have HR := Lib.hid (And.intro hG (And.intro hE (And.intro hqB hrB)))
            clear hG hE hqB hrB hx hx2B hc hv0
            go_wp2_with fail
            refine hgt.mono ?_
            rintro e w' ⟨rfl, rfl⟩
            clear hgt
            go_wp2_with fail
            have hqhB : q < B := HR.out.2.2.1
            have hW : A / B ^ j / V ≤ q ∧ q ≤ A / B ^ j / V + 1 := by
              obtain ⟨_, hE, hqB, _⟩ := HR.out
              refine guess_words hn2 HV.out.2.2.2.2.2.2.2.1 HV.out.2.2.2.2.2.2.2.2 HW.out.2.1 ?_ hqB
              rw [HW.out.2.2.2, HW.out.2.2.2, HW.out.2.2.2, show j + (n - 1) = j + n - 1 by omega, show j + (n - 2) = j + n - 2 by omega, ← HA.out.2.1, ← HA.out.2.2.1, ← HA.out.2.2.2.1, ← HV.out.2.2.2.1, ← HV.out.2.2.2.2.1]
              exact hE
            have hqm : j = m → q = 0 := fun h => first_zero h HA.out.1 HA.out.2.1 HA.out.2.2.1 HA.out.2.2.2.2.2.2.2.2.2.2.2.2.1 HV.out.2.2.2.1 HV.out.2.2.2.2.2.1 HV.out.2.2.2.2.2.2.1 HV.out.2.2.2.2.2.2.2.2 hn2 HR.out.2.1
            have hA := HA.out.1
            have hD := HA.out.2.2.2.2.2.2.2.2.2.1
            have hQ := HA.out.2.2.2.2.2.2.2.2.2.2.1
            clear HA HR c1 c2 c3 t1 t2 t3 e1
            have HT := Lib.hid (And.intro hA (And.intro hD hQ))
            clear hA hD hQ
            obtain ⟨hA, hD, hQ⟩ := HT.out
            obtain ⟨hvB, hv2, hrc, hvn1, hvn2, hUV, htop, hV, hVn⟩ := HV.out
            refine (mulAddVWW hb ho vb vo n hcap vc V q 0 wr (by omega) hqhB B_pos ((hD.wb _ _ _ HP.out.h).mono (by omega)) hD.v (by have := HP.out.vh; omega)).mono ?_
            rintro e w2 ⟨rfl, hw2⟩
            have hVq : V * q + 0 < B ^ (n + 1) := by
              rw [Nat.add_zero, Nat.pow_succ]
              exact Nat.mul_lt_mul_of_lt_of_lt hVn hqhB
            have hca : cmul V q 0 n = dig (V * q + 0) n := by rw [dig_top hVq, cmul_top hVn]
            rw [hca]
            have hwbh := hw2.wb (hD.wb _ _ _ HP.out.h)
            obtain ⟨v0, hzc⟩ := hwbh.cell (i := n) (by omega)
            have hzf := hwbh.frozen (ho + n)
            have hw3 := hw2.snoc (hD.wb _ _ _ HP.out.h) (by omega) (v := .int .u64 (dig (V * q + 0) n : Nat)) rfl
            have hD3 := hD.hat HP.out hw3
            have hch := hw3.cell_in (i := n) (by omega)
            by_cases hjm : j = m
            · obtain rfl := hqm hjm
              subst hjm
              rw [show dig (V * 0 + 0) n = 0 by rw [Nat.mul_zero]; exact dig_of_lt (Bpow_pos n)] at *
              have hAU : A = U := by rw [hA]; exact ucur_self _ hUV (by omega)
              have hWlt : A / B ^ j < V := by rw [hAU]; exact (Nat.div_lt_iff_lt_mul (Bpow_pos j)).2 hUV
              have HX := Lib.hid (And.intro hw3 (And.intro hD3 (And.intro hAU hWlt)))
              clear hw3 hD3 hqhB hW hqm hVq hw2 hca hwbh hA hD hQ hvB hv2 hrc hvn1 hvn2 hUV htop hV hVn hAU hWlt
              have hlt' : (j : Int) + n < (j : Int) + (n + 1) := by omega
              go_wp2
              generalize w2.setCell ⟨hb, ho + n, none⟩ (.int .u64 ((0 : Nat) : Nat)) = w3 at *
              have s1 : IntKind.i64.wrap ((j : Int) + (n : Int)) = (j : Int) + n := by rw [IntKind.wrap_i64]; omega
              have s2 : ((j : Int) + (n : Int)).toNat = j + n := by omega
              have s3 : (j : Int) + n ≤ uc := by omega
              have s4 : ¬ uc = j := by omega
              have s6 : (n : Int) ≤ hcap := by omega
              have s7 : (j : Int) ≤ (j : Int) + n := by omega
              have s9 : (0 : Int) ≤ (j : Int) + n := by omega
              have s10 : j + n ≤ uc := by omega
              have s11 : j + n - j = n := by omega
              have s12 : j ≤ uc := by omega
              have s13 : (j : Int) ≤ uc := by omega
              have s14 : (n : Int) ≤ n + 1 := by omega
              go_still_tail 15, (by kernel_rfl)
              change wpList _ _ _ _ _ w3.drew
              clear s1 s2 s3 s4 s6 s7 s9 s10 s11 s12 s13 s14
              go_wp2_with fail
              obtain ⟨hw3, hD3, hAU, hWlt⟩ := HX.out
              obtain ⟨hA, hD, hQ⟩ := HT.out
              have hVn := HV.out.2.2.2.2.2.2.2.2
              have hUV := HV.out.2.2.2.2.2.1
              have hWd := HW.out.2.2.2
              have hX0 : A / B ^ j < B ^ n := Nat.lt_trans hWlt hVn
              have hY0 : V * 0 + 0 < B ^ n := by rw [Nat.mul_zero]; exact Bpow_pos n
              have hru : Rd w3 ub j n (A / B ^ j) := by
                have := hD3.u.drop (k := j) (by omega)
                rw [Nat.zero_add] at this
                exact this.take (by omega)
              refine (subVV ub j ub j hb ho n (uc - j) (uc - j) hcap (A / B ^ j) (V * 0 + 0) w3.drew (by omega) hX0 hY0 ((hD3.wb _ _ _ HP.out.uw).mono (by omega)) hru (hw3.rd.take (by omega)) (by omega) (.inl HP.out.uh.symm)).mono ?_
              rintro e w4 ⟨rfl, hw4'⟩
              have hw4 := hw4'.undrew
              clear hw4'
              rw [bsub_top hX0 hY0, if_neg (by rw [Nat.mul_zero]; exact Nat.not_lt_zero _)]
              have hcu : ucur U V j = A := by rw [hAU]; exact ucur_self _ hUV (Nat.le_refl _)
              have hD4 : DB w1 qb ub vb vo hb ho sb l' j n S' V (ucur U V j) w4 := by
                refine hD3.sub HP.out hw4 (fun i hi h => by rw [hcu]) (fun i hi => ?_)
                rw [hcu, ← hWd, Nat.mul_zero, Nat.add_zero, Nat.sub_zero, dig_add_pow _ _ _ hi]
              have hQ4 : Qs w4 qb j (U / V) j := by
                unfold Qs at *
                rw [Nat.min_eq_right (by omega)] at hQ
                rw [Nat.min_self]
                exact fun i hi => by rw [hw4.cell_out (.inl HP.out.qu), hw3.cell_out (.inl HP.out.qh)]; exact hQ i hi
              have c5 : w4.cell? ⟨ub, j + n - 1, none⟩ = some (.int .u64 (dig (ucur U V j) (j + n - 1) : Nat)) := by
                have := hD4.u (j + n - 1) (by omega); rw [Nat.zero_add] at this; exact this
              obtain ⟨uj', huj'⟩ : ∃ x, x = dig (ucur U V j) (j + n - 1) := ⟨_, rfl⟩
              rw [← huj'] at c5
              have HE := Lib.hid (And.intro huj' (And.intro hD4 hQ4))
              clear huj' hD4 hQ4 hQ hA hD hw3 hw4 hD3 hAU hWlt hX0 hY0 hru hcu hWd hUV hVn
              go_wp2
              obtain ⟨huj', hD4, hQ4⟩ := HE.out
              exact ⟨⟨j, by omega, rfl, by rw [huj'], hD4, hQ4⟩, by simp [intOf]⟩
            · have HX := Lib.hid (And.intro hw3 (And.intro hD3 (And.intro hqhB (And.intro hW hVq))))
              generalize dig (V * q + 0) n = top at *
              clear hw3 hD3 hqhB hW hqm hVq hw2 hca hwbh hA hD hQ hvB hv2 hrc hvn1 hvn2 hUV htop hV hVn
              have hjm' : ((j : Int) == m) = false := beq_eq_false_iff_ne.2 (by omega)
              have hlt' : ¬ (m : Int) + n < (j : Int) + (n + 1) := by omega
              go_wp2
              generalize w2.setCell ⟨hb, ho + n, none⟩ (.int .u64 (top : Nat)) = w3 at *
              have s1 : IntKind.i64.wrap ((j : Int) + ((n : Int) + 1)) = (j : Int) + (n + 1) := by rw [IntKind.wrap_i64]; omega
              have s2 : ((j : Int) + (n + 1)).toNat = j + (n + 1) := by omega
              have s3 : (j : Int) + (n + 1) ≤ uc := by omega
              have s4 : ¬ uc = j := by omega
              have s5 : ((n : Int) + 1).toNat = n + 1 := by omega
              have s6 : (n : Int) + 1 ≤ hcap := by omega
              have s7 : (j : Int) ≤ (j : Int) + (n + 1) := by omega
              have s8 : (0 : Int) ≤ (n : Int) + 1 := by omega
              have s9 : (0 : Int) ≤ (j : Int) + (n + 1) := by omega
              have s10 : j + (n + 1) ≤ uc := by omega
              have s11 : j + (n + 1) - j = n + 1 := by omega
              have s12 : j ≤ uc := by omega
              have s13 : (j : Int) ≤ uc := by omega
              have s14 : (n : Int) + 1 ≤ n + 1 := by omega
              go_still_tail 15, (by kernel_rfl)
              change wpList _ _ _ _ _ w3.drew
              clear s1 s2 s3 s4 s5 s6 s7 s8 s9 s10 s11 s12 s13 s14
              go_wp2_with fail
              obtain ⟨hw3, hD3, hqhB, hW, hVq⟩ := HX.out
              have hWd := HW.out.2.1
              have hru : Rd w3 ub j (n + 1) (A / B ^ j) := by
                have := hD3.u.drop (k := j) (by omega)
                rw [Nat.zero_add] at this
                exact this.take (by omega)
              refine (subVV ub j ub j hb ho (n + 1) (uc - j) (uc - j) hcap (A / B ^ j) (V * q + 0) w3.drew (by omega) hWd hVq ((hD3.wb _ _ _ HP.out.uw).mono (by omega)) hru hw3.rd (by omega) (.inl HP.out.uh.symm)).mono ?_
              rintro e w4 ⟨rfl, hw4'⟩
              have hw4 := hw4'.undrew
              clear hw4'
              have hjq : j < m := by omega
              obtain ⟨hA, hD, hQ⟩ := HT.out
              have hV0 := HW.out.1
              rw [bsub_top hWd hVq]
              by_cases hcase : q = A / B ^ j / V
              · obtain ⟨z1, z2⟩ := sub_right (n := n) hcase
                rw [if_neg z2]
                have hD4 : DB w1 qb ub vb vo hb ho sb l' m n S' V (ucur U V j) w4 := by
                  refine hD3.sub HP.out hw4 (fun i hi h => ?_) (fun i hi => ?_)
                  · rw [hA]; exact ucur_out hV0 HV.out.2.2.2.2.2.2.2.2 h
                  · rw [ucur_in, ← hA, z1, dig_add_pow _ _ _ hi]
                have c5 : w4.cell? ⟨ub, j + n - 1, none⟩ = some (.int .u64 (dig (ucur U V j) (j + n - 1) : Nat)) := by
                  have := hD4.u (j + n - 1) (by omega); rw [Nat.zero_add] at this; exact this
                obtain ⟨vq, c6⟩ := (hD4.wb _ _ _ HP.out.q).cell (i := j) hjq
                have c7 := (hD4.wb _ _ _ HP.out.q).frozen j
                rw [Nat.zero_add] at c6
                obtain ⟨uj', huj'⟩ : ∃ x, x = dig (ucur U V j) (j + n - 1) := ⟨_, rfl⟩
                rw [← huj'] at c5
                have HE := Lib.hid (And.intro huj' (And.intro hD4 (And.intro hcase (And.intro hw3 (And.intro hw4 hQ)))))
                clear huj' hD4 hcase hw3 hw4 hQ hA hD hV0 hWd hru hVq hW hqhB hD3 z1 z2
                go_wp2
                obtain ⟨huj', hD4, hcase, hw3, hw4, hQ⟩ := HE.out
                have hqd : q = dig (U / V) j := by rw [hcase, HT.out.1, ucur_dig]
                refine ⟨⟨j, by omega, rfl, by rw [huj'], hD4.put HP.out j _, hQ.put hjq (fun i => ?_) (hD4.wb _ _ _ HP.out.q) hqd⟩, by simp [intOf]⟩
                rw [hw4.cell_out (.inl HP.out.qu), hw3.cell_out (.inl HP.out.qh)]
              · have hcase' : q = A / B ^ j / V + 1 := by omega
                obtain ⟨z1, z2⟩ := sub_over (n := n) hV0 hcase' hVq
                rw [if_pos z2]
                generalize A / B ^ j + B ^ (n + 1) - (V * q + 0) = Z at *
                have hv4 : Rd w4 vb vo n V := hw4.rd_out hD3.v (.inl HP.out.uv.symm)
                have huw4 : Wb w4 ub 0 (m + n) := hw4.wb (hD3.wb _ _ _ HP.out.uw)
                have HE := Lib.hid (And.intro hcase' (And.intro hw3 (And.intro hD3 (And.intro hw4 (And.intro hQ (And.intro z1 (And.intro hqhB (And.intro hv4 huw4))))))))
                clear hcase hcase' hw3 hw4 hQ hA hD hV0 hWd hru hVq hW hqhB hD3 z1 z2 hv4 huw4
                go_wp2
                have s1 : IntKind.i64.wrap ((j : Int) + (n : Int)) = (j : Int) + n := by rw [IntKind.wrap_i64]; omega
                have s2 : ((j : Int) + n).toNat = j + n := by omega
                have s3 : (j : Int) + n ≤ uc := by omega
                have s4 : ¬ uc = j := by omega
                have s7 : (j : Int) ≤ (j : Int) + n := by omega
                have s8 : (0 : Int) ≤ (n : Int) := by omega
                have s9 : (0 : Int) ≤ (j : Int) + n := by omega
                have s10 : j + n ≤ uc := by omega
                have s11 : j + n - j = n := by omega
                have s12 : j ≤ uc := by omega
                have s13 : (j : Int) ≤ uc := by omega
                go_still_tail 13, (by kernel_rfl)
                change wpList _ _ _ _ _ w4.drew
                clear s1 s2 s3 s4 s7 s8 s9 s10 s11 s12 s13
                go_wp2_with fail
                obtain ⟨hcase', hw3, hD3, hw4, hQ, z1, hqhB, hv4, huw4⟩ := HE.out
                have hVn := HV.out.2.2.2.2.2.2.2.2
                refine (addVV ub j ub j vb vo n (uc - j) (uc - j) vc Z V w4.drew (by omega) (huw4.mono (by omega)) (hw4.rd.take (by omega)) hv4 (by omega) (.inl HP.out.uv.symm)).mono ?_
                rintro e w5 ⟨rfl, hw5'⟩
                have hw5 := hw5'.undrew
                clear hw5'
                have hA := HT.out.1
                have h9 := cadd_dig Z V 0 n
                obtain ⟨zn, hzn⟩ : ∃ x, x = dig Z n := ⟨_, rfl⟩
                obtain ⟨xn, hxn⟩ : ∃ x, x = dig (Z + V) n := ⟨_, rfl⟩
                rw [dig_of_lt hVn, Nat.add_zero, Nat.add_zero, ← hzn, ← hxn] at h9
                have c8 : w5.cell? ⟨ub, j + n, none⟩ = some (.int .u64 zn) := by
                  rw [hw5.cell_out (.inr (.inr (by dsimp only; omega))), hw4.cell_in (by omega), wd, hzn]
                have c9 : w5.frozen? ⟨ub, j + n, none⟩ = false := (hw5.wb huw4).frozen _
                have hw6 := hw5.snoc (huw4.mono (o' := j) (n' := n + 1) (by omega)) (by omega) (v := .int .u64 (xn : Nat)) (by rw [wd, hxn])
                have hw7 := hw4.again hw6
                obtain ⟨ca, hca⟩ : ∃ x, x = cadd Z V 0 n := ⟨_, rfl⟩
                rw [← hca] at h9 ⊢
                have f1 : IntKind.u64.wrap ((zn : Int) + (ca : Nat)) = (xn : Nat) := by
                  rw [IntKind.wrap_u64]; unfold B at h9; omega
                obtain ⟨qm, hqm1⟩ : ∃ qm, q = qm + 1 := ⟨_, hcase'⟩
                have f2 : IntKind.u64.wrap ((q : Int) - 1) = (qm : Nat) := by
                  rw [IntKind.wrap_u64]; unfold B at hqhB; omega
                have hltn : (n : Int) < (n : Int) + 1 := by omega
                have hD5 : DB w1 qb ub vb vo hb ho sb l' m n S' V (ucur U V j) (w5.setCell ⟨ub, j + n, none⟩ (.int .u64 (xn : Nat))) := by
                  refine hD3.sub HP.out hw7 (fun i hi h => ?_) (fun i hi => ?_)
                  · rw [hA]; exact ucur_out HW.out.1 hVn h
                  · rw [ucur_in, ← hA, z1, dig_add_pow _ _ _ hi]
                have c5 : (w5.setCell ⟨ub, j + n, none⟩ (.int .u64 (xn : Nat))).cell? ⟨ub, j + n - 1, none⟩ = some (.int .u64 (dig (ucur U V j) (j + n - 1) : Nat)) := by
                  have := hD5.u (j + n - 1) (by omega); rw [Nat.zero_add] at this; exact this
                obtain ⟨vq, c6⟩ := (hD5.wb _ _ _ HP.out.q).cell (i := j) hjq
                have c7 := (hD5.wb _ _ _ HP.out.q).frozen j
                rw [Nat.zero_add] at c6
                obtain ⟨uj', huj'⟩ : ∃ x, x = dig (ucur U V j) (j + n - 1) := ⟨_, rfl⟩
                rw [← huj'] at c5
                have HE2 := Lib.hid (And.intro huj' (And.intro hD5 (And.intro hcase' (And.intro hw3 (And.intro hw7 (And.intro hQ hqm1))))))
                clear hqm1 huj' hD5 hcase' hw3 hD3 hw4 hQ z1 hqhB hv4 huw4 hVn hw5 hA hzn hxn h9 hw6 hw7 hca HE
                go_wp2
                obtain ⟨huj', hD5, hcase', hw3, hw7, hQ, hqm1⟩ := HE2.out
                have hqd : qm = dig (U / V) j := by rw [← ucur_dig, ← HT.out.1]; rw [hqm1] at hcase'; exact Nat.succ.inj hcase'
                refine ⟨⟨j, by omega, rfl, by rw [huj'], hD5.put HP.out j _, hQ.put hjq (fun i => ?_) (hD5.wb _ _ _ HP.out.q) hqd⟩, by simp [intOf]⟩
                rw [hw7.cell_out (.inl HP.out.qu), hw3.cell_out (.inl HP.out.qh)]
end Go.Proofs.YtbnmgopobmiadaaGreatDoor
