/- lehmerGCD's four Ints; contract of lehmerUpdate. -/
import Derived.Test.YtbnmgopobmiadaaGreatDoorB25
import Derived.Test.YtbnmgopobmiadaaGreatDoorB26
import Derived.Test.YtbnmgopobmiadaaGreatDoorA1

set_option linter.unusedSimpArgs false
set_option linter.unusedVariables false

namespace Go.Proofs.YtbnmgopobmiadaaGreatDoor
open Go.RowKit

def upd {α : Type} (f : Fin 4 → α) (i : Fin 4) (x : α) : Fin 4 → α := fun j => if j = i then x else f j
theorem upd_same {α : Type} (f : Fin 4 → α) (i : Fin 4) (x : α) : upd f i x i = x := by simp [upd]
theorem upd_other {α : Type} (f : Fin 4 → α) {i j : Fin 4} (h : j ≠ i) (x : α) : upd f i x j = f j := by simp [upd, h]

/-- four Ints, all made since the world w0, apart from each other -/
structure Fam (w0 w : World) (b : Fin 4 → Nat) (s : Fin 4 → Bool) (v : Fin 4 → Value) (X : Fin 4 → Nat) : Prop where
  im : ∀ i, Im w (b i) (s i) (v i) (X i)
  dis : ∀ i j, i ≠ j → Dis (b i) (v i) (b j) (v j)
  fresh : ∀ i k, Reg (b i) (v i) k → w0.heap.size ≤ k
  chg : Chg (fun _ => False) w0 w

theorem Dis.symm {b b' : Nat} {v v' : Value} (h : Dis b v b' v') : Dis b' v' b v := fun k h1 h2 => h k h2 h1

theorem Fam.step {w0 w w' : World} {b : Fin 4 → Nat} {s : Fin 4 → Bool} {v : Fin 4 → Value} {X : Fin 4 → Nat} (h : Fam w0 w b s v X) (i : Fin 4) {s' : Bool} {Z' : Nat} {r : Value} {e : Ending}
    (g : ImGives (b i) (v i) s' Z' r w e w') : ∃ v', Fam w0 w' b (upd s i s') v' (upd X i Z') := by
  obtain ⟨_, vi, hi, hc, ho⟩ := g
  have hsz := h.chg.size
  have hr : ∀ k, Reg (b i) vi k → Reg (b i) (v i) k ∨ w.heap.size ≤ k := fun k hk => by
    rcases hk with rfl | hk
    · exact .inl (.inl rfl)
    · exact (ho k hk).imp .inr id
  refine ⟨upd v i vi, fun j => ?_, fun j k hjk => ?_, fun j k => ?_, h.chg.trans hc (fun _ h => h) (fun k hk hr => by have := h.fresh i k hr; omega)⟩
  · by_cases hj : j = i
    · subst hj; rw [upd_same, upd_same, upd_same]; exact hi
    · rw [upd_other _ hj, upd_other _ hj, upd_other _ hj]
      exact (h.im j).keep hc (h.dis j i hj)
  · intro a
    by_cases hj : j = i
    · subst hj
      rw [upd_same, upd_other _ hjk.symm]
      intro h1 h2
      rcases hr a h1 with h3 | h3
      · exact h.dis j k hjk a h3 h2
      · have := (h.im k).lt a h2; omega
    · rw [upd_other _ hj]
      by_cases hk : k = i
      · subst hk
        rw [upd_same]
        intro h1 h2
        rcases hr a h2 with h3 | h3
        · exact h.dis j k hj a h1 h3
        · have := (h.im j).lt a h1; omega
      · rw [upd_other _ hk]
        exact h.dis j k hjk a
  · intro hk
    by_cases hj : j = i
    · subst hj
      rw [upd_same] at hk
      rcases hr k hk with h3 | h3
      · exact h.fresh j k h3
      · omega
    · rw [upd_other _ hj] at hk; exact h.fresh j k hk

theorem Fam.apart {w0 w : World} {b : Fin 4 → Nat} {s : Fin 4 → Bool} {v : Fin 4 → Value} {X : Fin 4 → Nat} (h : Fam w0 w b s v X) {i j : Fin 4} (hij : i ≠ j) :
    b j ≠ b i ∧ (v i).ownBlock ≠ some (b j) ∧ Off (fun k => (v i).ownBlock = some k) (v j) :=
  ⟨fun e => h.dis i j hij (b i) (.inl rfl) (.inl e.symm), fun e => h.dis i j hij (b j) (.inr e) (.inl rfl), fun k hk e => h.dis i j hij k (.inr e) (.inr hk)⟩

theorem Fam.mulW {w0 w : World} {b : Fin 4 → Nat} {s : Fin 4 → Bool} {v : Fin 4 → Value} {X : Fin 4 → Nat} (h : Fam w0 w b s v X) (i j : Fin 4) (neg : Bool) (y : Nat) (hX : wlen (X j) ≤ 10000) (hy : y < B) :
    Calls Tryz.prog 130 #[.pointer (some ⟨b i, 0, none⟩), .pointer (some ⟨b j, 0, none⟩), .bool neg, .int .u64 y] w
      (fun e w' => e = .returned (.tuple #[]) ∧ ∃ v', Fam w0 w' b (upd s i (s j != neg)) v' (upd X i (X j * y))) := by
  refine (Go.Proofs.YtbnmgopobmiadaaGreatDoor.mulW (b i) (b j) 0 (s i) (s j) neg (v i) (v j) (X i) (X j) y w (h.im i) (h.im j).ir hX hy ?_).mono fun e w' g => ⟨g.1, h.step i g⟩
  by_cases hij : i = j
  · subst hij; exact .inl ⟨rfl, rfl⟩
  · exact .inr (h.apart hij)
theorem Fam.add {w0 w : World} {b : Fin 4 → Nat} {s : Fin 4 → Bool} {v : Fin 4 → Value} {X : Fin 4 → Nat} (h : Fam w0 w b s v X) (i j : Fin 4) (hij : i ≠ j) (hX : wlen (X i) ≤ 10000) (hY : wlen (X j) ≤ 10000) (hY0 : X j ≠ 0) :
    Calls Tryz.prog 131 #[.pointer (some ⟨b i, 0, none⟩), .pointer (some ⟨b i, 0, none⟩), .pointer (some ⟨b j, 0, none⟩)] w
      (fun e w' => e = .returned (.pointer (some ⟨b i, 0, none⟩)) ∧ ∃ s' Z' v', sv s' Z' = sv (s i) (X i) + sv (s j) (X j) ∧ (s' = true → Z' ≠ 0) ∧ Fam w0 w' b (upd s i s') v' (upd X i Z')) := by
  refine (intAdd (b i) (b j) (s i) (s j) (v i) (v j) (X i) (X j) w (h.im i) (h.im j) hX hY hY0 (h.apart hij)).mono fun e w' ⟨s', Z', h1, h2, g⟩ => ⟨g.1, s', Z', ?_⟩
  obtain ⟨v', hv⟩ := h.step i g
  exact ⟨v', h1, h2, hv⟩

theorem wlen_mul_word {X y : Nat} (hy : y < B) : wlen (X * y) ≤ wlen X + 1 := by
  refine wlen_le ?_
  rw [Nat.pow_succ]
  exact Nat.mul_lt_mul_of_lt_of_le (lt_wlen X) (Nat.le_of_lt hy) B_pos
theorem sv_nat {s : Bool} {Z X : Nat} (h : sv s Z = (X : Int)) (h2 : s = true → Z ≠ 0) : s = false ∧ Z = X := by
  cases s
  · exact ⟨rfl, by simp [sv] at h; omega⟩
  · have := h2 rfl; simp [sv] at h; omega

set_option maxHeartbeats 4000000 in
set_option maxRecDepth 100000 in
theorem lehmerUpdate {w0 w : World} {b : Fin 4 → Nat} {s : Fin 4 → Bool} {v : Fin 4 → Value} {X : Fin 4 → Nat} (h : Fam w0 w b s v X) (even : Bool) (u0 u1 v0 v1 : Nat) (h0 : s 0 = false) (h1 : s 1 = false)
    (hX : wlen (X 0) ≤ 1000) (hY : wlen (X 1) ≤ 1000) (hY0 : X 1 ≠ 0) (hX0 : X 0 ≠ 0) (hu0 : u0 < B) (hu1 : u1 < B) (hv0 : v0 < B) (hv1 : v1 < B) (hv00 : v0 ≠ 0) (hL : LehOut (X 0) (X 1) even u0 u1 v0 v1) :
    Calls Tryz.prog 128 #[.pointer (some ⟨b 0, 0, none⟩), .pointer (some ⟨b 1, 0, none⟩), .pointer (some ⟨b 2, 0, none⟩), .pointer (some ⟨b 3, 0, none⟩), .int .u64 u0, .int .u64 u1, .int .u64 v0, .int .u64 v1, .bool even] w
      (fun e w' => e = .returned (.tuple #[]) ∧ ∃ s' v' X', Fam w0 w' b s' v' X' ∧ s' 0 = false ∧ s' 1 = false ∧ X' 1 < X' 0 ∧ X' 0 ≤ X 1 ∧ Nat.gcd (X' 0) (X' 1) = Nat.gcd (X 0) (X 1)) := by
  have e1 := h.mulW 2 1 even v0 (by omega) hv0
  have HH := Lib.hid (And.intro h0 (And.intro h1 (And.intro hX (And.intro hY (And.intro hY0 (And.intro hX0 (And.intro hv00 hL)))))))
  clear h0 h1 hX hY hY0 hX0 hv00 hL h
  go_enter Tryz.func128, Tryz.ntmps128
  go_wp2_with fail
  refine e1.mono ?_
  rintro e w1 ⟨rfl, v1', hf1⟩
  have e2 := hf1.mulW 3 0 even u1 (by have := HH.out.2.2.1; rw [upd_other _ (by decide)]; omega) hu1
  clear e1 hf1
  go_wp2_with fail
  refine e2.mono ?_
  rintro e w2 ⟨rfl, v2', hf2⟩
  have e3 := hf2.mulW 0 0 (!even) u0 (by have := HH.out.2.2.1; rw [upd_other _ (by decide), upd_other _ (by decide)]; omega) hu0
  clear e2 hf2
  go_wp2_with fail
  refine e3.mono ?_
  rintro e w3 ⟨rfl, v3', hf3⟩
  have e4 := hf3.mulW 1 1 (!even) v1 (by have := HH.out.2.2.2.1; rw [upd_other _ (by decide), upd_other _ (by decide), upd_other _ (by decide)]; omega) hv1
  clear e3 hf3
  go_wp2_with fail
  refine e4.mono ?_
  rintro e w4 ⟨rfl, v4', hf4⟩
  obtain ⟨h0, h1, hX, hY, hY0, hX0, hv00, hL⟩ := HH.out
  simp [upd, h0, h1] at hf4
  have hXu := wlen_mul_word (X := X 0) hu0
  have hXu1 := wlen_mul_word (X := X 0) hu1
  have hYv := wlen_mul_word (X := X 1) hv0
  have hYv1 := wlen_mul_word (X := X 1) hv1
  have e5 := hf4.add 0 2 (by decide) (by simp [upd]; omega) (by simp [upd]; omega) (by simp [upd]; exact Nat.mul_ne_zero hY0 hv00)
  have HF := Lib.hid (And.intro hXu (And.intro hXu1 (And.intro hYv hYv1)))
  clear e4 hf4 h0 h1 hX hY hY0 hX0 hv00 hL hXu hXu1 hYv hYv1
  go_wp2_with fail
  refine e5.mono ?_
  rintro e w5 ⟨rfl, s5, Z5, v5', q1, q2, hf5⟩
  obtain ⟨h0, h1, hX, hY, hY0, hX0, hv00, hL⟩ := HH.out
  obtain ⟨hXu, hXu1, hYv, hYv1⟩ := HF.out
  have e6 := hf5.add 1 3 (by decide) (by simp [upd]; omega) (by simp [upd]; omega) (by simp [upd]; exact Nat.mul_ne_zero hX0 hL.u1)
  simp [upd] at q1
  have HG := Lib.hid (And.intro q1 q2)
  clear e5 q1 q2 hf5 hXu hXu1 hYv hYv1 h0 h1 hX hY hY0 hX0 hv00 hL
  go_wp2_with fail
  refine e6.mono ?_
  rintro e w6 ⟨rfl, s6, Z6, v6', q3, q4, hf6⟩
  simp [upd] at q3
  have HK := Lib.hid (And.intro q3 (And.intro q4 hf6))
  clear e6 q3 q4 hf6
  go_wp2
  go_end0
  obtain ⟨h0, h1, hX, hY, hY0, hX0, hv00, hL⟩ := HH.out
  obtain ⟨q1, q2⟩ := HG.out
  obtain ⟨q3, q4, hf6⟩ := HK.out
  obtain ⟨_, X', Y', l1, l2, l3, l4, l5⟩ := hL
  have a1 : sv s5 Z5 = (X' : Int) := by
    rw [q1, l4]
    cases even <;> simp [sv] <;> grind
  have a2 : sv s6 Z6 = (Y' : Int) := by
    rw [q3, l5]
    cases even <;> simp [sv] <;> grind
  obtain ⟨rfl, rfl⟩ := sv_nat a1 q2
  obtain ⟨rfl, rfl⟩ := sv_nat a2 q4
  exact ⟨rfl, _, _, _, hf6, by simp [upd], by simp [upd], by simp [upd]; exact l1, by simp [upd]; exact l2, by simp [upd]; exact l3⟩
end Go.Proofs.YtbnmgopobmiadaaGreatDoor
