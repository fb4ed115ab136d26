/- Contract of euclidUpdate. -/
import Derived.Test.YtbnmgopobmiadaaGreatDoorB27
import Derived.Test.YtbnmgopobmiadaaGreatDoorB28

set_option linter.unusedSimpArgs false
set_option linter.unusedVariables false

namespace Go.Proofs.YtbnmgopobmiadaaGreatDoor
open Go.RowKit

theorem Fam.perm {w0 w : World} {b : Fin 4 → Nat} {s : Fin 4 → Bool} {v : Fin 4 → Value} {X : Fin 4 → Nat} (h : Fam w0 w b s v X) (p : Fin 4 → Fin 4) (hp : ∀ i j, p i = p j → i = j) :
    Fam w0 w (fun i => b (p i)) (fun i => s (p i)) (fun i => v (p i)) (fun i => X (p i)) :=
  ⟨fun i => h.im (p i), fun i j hij => h.dis (p i) (p j) (fun e => hij (hp i j e)), fun i k hk => h.fresh (p i) k hk, h.chg⟩
def prm : Fin 4 → Fin 4 | 0 => 1 | 1 => 3 | 2 => 2 | 3 => 0
theorem prm_inj : ∀ i j, prm i = prm j → i = j := by decide
def swp : Fin 4 → Fin 4 | 0 => 1 | 1 => 0 | 2 => 2 | 3 => 3
theorem swp_inj : ∀ i j, swp i = swp j → i = j := by decide

theorem Fam.two {w0 w w' : World} {b : Fin 4 → Nat} {s : Fin 4 → Bool} {v : Fin 4 → Value} {X : Fin 4 → Nat} (h : Fam w0 w b s v X) {Q R : Nat} {e : Ending}
    (g : QR (b 2) (b 3) (v 2) (v 3) Q R w e w') : ∃ v', Fam w0 w' b (upd (upd s 2 false) 3 false) v' (upd (upd X 2 Q) 3 R) := by
  obtain ⟨_, v2, v3, h2, h3, hc, ho2, ho3, hd⟩ := g
  have hsz := h.chg.size
  have hsz' := hc.size
  have hr2 : ∀ k, Reg (b 2) v2 k → Reg (b 2) (v 2) k ∨ w.heap.size ≤ k := fun k hk => by
    rcases hk with rfl | hk
    · exact .inl (.inl rfl)
    · exact (ho2 k hk).imp .inr id
  have hr3 : ∀ k, Reg (b 3) v3 k → Reg (b 3) (v 3) k ∨ w.heap.size ≤ k := fun k hk => by
    rcases hk with rfl | hk
    · exact .inl (.inl rfl)
    · exact (ho3 k hk).imp .inr id
  have d23 : Dis (b 2) v2 (b 3) v3 := fun k k2 k3 => by
    have n23 : b 2 ≠ b 3 := fun e => h.dis 2 3 (by decide) (b 2) (.inl rfl) (.inl e)
    rcases k2 with rfl | k2
    · rcases k3 with k3 | k3
      · exact n23 k3
      · rcases ho3 _ k3 with k4 | k4
        · exact h.dis 2 3 (by decide) _ (.inl rfl) (.inr k4)
        · have := (h.im 2).blk.lt; omega
    · rcases k3 with rfl | k3
      · rcases ho2 _ k2 with k4 | k4
        · exact h.dis 2 3 (by decide) _ (.inr k4) (.inl rfl)
        · have := (h.im 3).blk.lt; omega
      · exact hd k k2 k3
  have dz : ∀ i, i ≠ 2 → i ≠ 3 → Dis (b i) (v i) (b 2) v2 ∧ Dis (b i) (v i) (b 3) v3 := fun i i2 i3 => by
    refine ⟨fun k h1 h2' => ?_, fun k h1 h2' => ?_⟩
    · rcases hr2 k h2' with h3 | h3
      · exact h.dis i 2 i2 k h1 h3
      · have := (h.im i).lt k h1; omega
    · rcases hr3 k h2' with h3 | h3
      · exact h.dis i 3 i3 k h1 h3
      · have := (h.im i).lt k h1; omega
  have keep : ∀ i, i ≠ 2 → i ≠ 3 → Im w' (b i) (s i) (v i) (X i) := fun i i2 i3 =>
    (h.im i).keep hc (fun k h1 h2 => h2.elim (h.dis i 2 i2 k h1) (h.dis i 3 i3 k h1))
  refine ⟨upd (upd v 2 v2) 3 v3, ?_, ?_, ?_, h.chg.trans hc (fun _ h => h) (fun k hk hr => ?_)⟩
  · intro i
    match i with
    | 0 => simp [upd]; exact keep 0 (by decide) (by decide)
    | 1 => simp [upd]; exact keep 1 (by decide) (by decide)
    | 2 => simp [upd]; exact h2
    | 3 => simp [upd]; exact h3
  · intro i j hij
    match i, j with
    | 0, 0 => exact absurd rfl hij
    | 1, 1 => exact absurd rfl hij
    | 2, 2 => exact absurd rfl hij
    | 3, 3 => exact absurd rfl hij
    | 0, 1 => simp [upd]; exact h.dis 0 1 (by decide)
    | 1, 0 => simp [upd]; exact h.dis 1 0 (by decide)
    | 0, 2 => simp [upd]; exact (dz 0 (by decide) (by decide)).1
    | 0, 3 => simp [upd]; exact (dz 0 (by decide) (by decide)).2
    | 1, 2 => simp [upd]; exact (dz 1 (by decide) (by decide)).1
    | 1, 3 => simp [upd]; exact (dz 1 (by decide) (by decide)).2
    | 2, 0 => simp [upd]; exact (dz 0 (by decide) (by decide)).1.symm
    | 3, 0 => simp [upd]; exact (dz 0 (by decide) (by decide)).2.symm
    | 2, 1 => simp [upd]; exact (dz 1 (by decide) (by decide)).1.symm
    | 3, 1 => simp [upd]; exact (dz 1 (by decide) (by decide)).2.symm
    | 2, 3 => simp [upd]; exact d23
    | 3, 2 => simp [upd]; exact d23.symm
  · intro i k hk
    match i with
    | 0 => simp [upd] at hk; exact h.fresh 0 k hk
    | 1 => simp [upd] at hk; exact h.fresh 1 k hk
    | 2 =>
      simp [upd] at hk
      rcases hr2 k hk with h3 | h3
      · exact h.fresh 2 k h3
      · omega
    | 3 =>
      simp [upd] at hk
      rcases hr3 k hk with h3 | h3
      · exact h.fresh 3 k h3
      · omega
  · rcases hr with hr | hr
    · have := h.fresh 2 k hr; omega
    · have := h.fresh 3 k hr; omega

theorem seven_lt {w : World} {x : Value} (hG : w.cell? ⟨7, 0, none⟩ = some x) : 7 < w.heap.size := by
  unfold World.cell? at hG
  rcases h : w.heap[7]? with _ | o
  · dsimp only at hG; rw [h] at hG; cases hG
  · exact (Array.getElem?_eq_some_iff.1 h).1

theorem Fam.quoRem {w0 w : World} {b : Fin 4 → Nat} {s : Fin 4 → Bool} {v : Fin 4 → Value} {X : Fin 4 → Nat} (h : Fam w0 w b s v X) (h0 : s 0 = false) (h1 : s 1 = false) (hX : wlen (X 0) ≤ 10000) (hY : wlen (X 1) < 40) (hY0 : X 1 ≠ 0)
    (hG : w0.cell? ⟨7, 0, none⟩ = some (.int .i64 40)) :
    Calls Tryz.prog 173 #[.pointer (some ⟨b 2, 0, none⟩), .pointer (some ⟨b 0, 0, none⟩), .pointer (some ⟨b 1, 0, none⟩), .pointer (some ⟨b 3, 0, none⟩)] w
      (fun e w' => e = .returned (.tuple #[.pointer (some ⟨b 2, 0, none⟩), .pointer (some ⟨b 3, 0, none⟩)]) ∧ ∃ v', Fam w0 w' b (upd (upd s 2 false) 3 false) v' (upd (upd X 2 (X 0 / X 1)) 3 (X 0 % X 1))) := by
  have i0 := h.im 0
  have i1 := h.im 1
  rw [h0] at i0
  rw [h1] at i1
  have h7 := seven_lt hG
  exact (Go.Proofs.YtbnmgopobmiadaaGreatDoor.quoRem (b 2) (b 0) (b 1) (b 3) (s 2) (s 3) (v 2) (v 0) (v 1) (v 3) (X 2) (X 0) (X 1) (X 3) w (h.im 2) i0 i1 (h.im 3) hX hY hY0 (h.chg.cell hG (fun h => h))
    (fun hr => by have := h.fresh 3 7 hr; omega) (h.dis 2 0 (by decide)) (h.dis 2 1 (by decide)) (h.dis 2 3 (by decide)) (h.dis 3 0 (by decide)) (h.dis 3 1 (by decide))).mono fun e w' g => ⟨g.1, h.two g⟩

set_option maxHeartbeats 4000000 in
set_option maxRecDepth 100000 in
theorem euclidUpdate {w0 w : World} {b : Fin 4 → Nat} {s : Fin 4 → Bool} {v : Fin 4 → Value} {X : Fin 4 → Nat} (h : Fam w0 w b s v X) (h0 : s 0 = false) (h1 : s 1 = false) (hX : wlen (X 0) ≤ 10000) (hY : wlen (X 1) < 40) (hY0 : X 1 ≠ 0)
    (hG : w0.cell? ⟨7, 0, none⟩ = some (.int .i64 40)) :
    Calls Tryz.prog 129 #[.pointer (some ⟨b 0, 0, none⟩), .pointer (some ⟨b 1, 0, none⟩), .pointer none, .pointer none, .pointer (some ⟨b 2, 0, none⟩), .pointer (some ⟨b 3, 0, none⟩), .bool false] w
      (fun e w' => e = .returned (.tuple #[.pointer (some ⟨b 1, 0, none⟩), .pointer (some ⟨b 3, 0, none⟩), .pointer (some ⟨b 0, 0, none⟩), .pointer none, .pointer none]) ∧
        ∃ s' v' X', Fam w0 w' (fun i => b (prm i)) s' v' X' ∧ s' 0 = false ∧ s' 1 = false ∧ X' 0 = X 1 ∧ X' 1 = X 0 % X 1) := by
  have hq := h.quoRem h0 h1 hX hY hY0 hG
  clear h hX hY hY0 hG
  have H1 := Lib.hid h1
  clear h0 h1
  go_enter Tryz.func129, Tryz.ntmps129
  go_wp2_with fail
  refine hq.mono ?_
  rintro e w1 ⟨rfl, v', hf⟩
  have HF := Lib.hid (hf.perm prm prm_inj)
  clear hf hq
  go_wp2
  refine bodyPost_ret (results_tmp5 rfl _ _ _) rfl ?_
  exact ⟨rfl, _, _, _, HF.out, by simp [upd, prm]; exact H1.out, by simp [upd, prm], by simp [upd, prm], by simp [upd, prm]⟩
end Go.Proofs.YtbnmgopobmiadaaGreatDoor
