/- Contracts of stack.nat (96), save, restore, free over Stk. -/
import Derived.Test.YtbnmgopobmiadaaGreatDoorB15
import Derived.Test.YtbnmgopobmiadaaGreatDoorA1
import Derived.Defers

set_option linter.unusedSimpArgs false
set_option linter.unusedVariables false

namespace Go.Proofs.YtbnmgopobmiadaaGreatDoor
open Go.RowKit

theorem wd_slice (X : Nat) (a : Option Addr) (l c : Nat) : ∀ i, Value.slice a l c ≠ wd X i := fun i h => by unfold wd at h; cases h
theorem wd_pointer (X : Nat) (a : Option Addr) : ∀ i, Value.pointer a ≠ wd X i := fun i h => by unfold wd at h; cases h

set_option maxHeartbeats 1000000 in
set_option maxRecDepth 100000 in
theorem stack_nat_some (w : World) (sb l n : Nat) (S : Nat → Prop) (hS : S sb) (ib : Nat) (base : Option Addr) (c : Nat) (h : One w sb (.pointer (some ⟨ib, 0, none⟩)))
    (hI : One w ib (.slice base l c)) (hlc : l ≤ c) (hc : c ≤ 9223372036854775807) (hn0 : 0 < n) (hln : l + n ≤ 900000) (hr : Room w base c) (his : ib ≠ sb) (hSi : S ib)
    (hne : ∀ rb, base = some ⟨rb, 0, none⟩ → rb ≠ ib ∧ rb ≠ sb ∧ S rb) :
    Calls Tryz.prog 96 #[.pointer (some ⟨sb, 0, none⟩), .int .i64 n] w (SNat sb l n S w) := by
  have hcell := h.cell
  have hin := inner_nat w ib base l c n hI hlc hc hn0 hln hr (fun rb hb => (hne rb hb).1)
  have HH := Lib.hid (And.intro h (And.intro hI hne))
  clear h hI hne hr
  go_enter Tryz.func96, Tryz.ntmps96
  go_wp2_with fail
  refine hin.mono ?_
  rintro e w1 ⟨rb, l', c', rfl, k1, k2, k3, k4, k5, k6, k7, k8, kw, k9⟩
  have HK := Lib.hid (And.intro k1 (And.intro k6 (And.intro k7 (And.intro k8 (And.intro kw k9)))))
  clear k1 k6 k7 k8 kw k9 hin
  go_wp2
  go_ret
  obtain ⟨k1, k6, k7, k8, kw, k9⟩ := HK.out
  obtain ⟨h, hI, hne⟩ := HH.out
  have hrs : rb ≠ sb := by
    rcases k9 with ⟨h9, _⟩ | h9
    · exact (hne rb h9).2.1
    · have := h.lt; omega
  refine ⟨rb, l, n, l', fun k => S k ∨ k = rb ∧ w.heap.size ≤ k, rfl, Nat.le_refl _, by omega, k6.mono (by omega), ⟨.inl hS, .inr ⟨ib, _, c', h.keep k8 (by omega), k1, k4, k5, .inr ⟨rb, rfl, k6⟩, his, .inl hSi, ?_⟩⟩,
    fun k hk => hk.imp id (fun h => h.2), fun k hk => .inl hk, .inr (by omega), by omega, by omega, ?_, ?_, ?_, ?_⟩
  · intro rb' e'
    injection e' with e'; injection e' with e'; subst e'
    refine ⟨k7, hrs, ?_⟩
    rcases k9 with ⟨h9, _⟩ | h9
    · exact .inl (hne rb h9).2.2
    · exact .inr ⟨rfl, h9⟩
  · rcases k9 with ⟨h9, _⟩ | h9
    · exact .inr ⟨(hne rb h9).2.2, Nat.le_refl _⟩
    · exact .inl h9
  · refine k8.mono fun k hk hk2 => ?_
    rcases hk2 with rfl | rfl
    · exact hSi
    · rcases k9 with ⟨h9, _⟩ | h9
      · exact (hne _ h9).2.2
      · omega
  · exact kw
  · intro b o m X hb hr hd
    by_cases h1 : b = ib
    · subst h1
      have := hI.no_word (wd_slice X _ _ _) hr
      subst this
      intro i hi; omega
    · by_cases h2 : b = rb
      · subst h2
        rcases k9 with ⟨h9, h10⟩ | h9
        · intro i hi
          rw [h10 (o + i) (by rcases hd with hd | hd; exact absurd (hne _ h9).2.2 hd; omega)]
          exact hr i hi
        · omega
      · exact k8.rd hr hb (by omega)

set_option maxHeartbeats 1000000 in
set_option maxRecDepth 100000 in
theorem stack_nat_new (w : World) (sb n : Nat) (S : Nat → Prop) (hS : S sb) (h : One w sb (.pointer none)) (hn0 : 4 < n) (hn : n ≤ 900000) :
    Calls Tryz.prog 96 #[.pointer (some ⟨sb, 0, none⟩), .int .i64 n] w (SNat sb 0 n S w) := by
  have hcell := h.cell
  have hA : One (w.alloc (.cells #[.slice none 0 0] 337)) sb (.pointer none) := h.keep ((Chg.refl (fun _ => False) w).alloc _) (fun h => h)
  have hIA : One (w.alloc (.cells #[.slice none 0 0] 337)) w.heap.size (.slice none 0 0) := ⟨_, heap_alloc_new w _⟩
  have hcA := hA.cell
  have hfA := hA.frozen
  have hlt := h.lt
  have hB : One ((w.setCell ⟨sb, 0, none⟩ (.pointer (some ⟨w.heap.size, 0, none⟩))).alloc (.cells #[.slice none 0 0] 337)) sb (.pointer (some ⟨w.heap.size, 0, none⟩)) := (h.set _).keep ((Chg.refl (fun _ => False) _).alloc _) (fun h => h)
  have hIB : One ((w.setCell ⟨sb, 0, none⟩ (.pointer (some ⟨w.heap.size, 0, none⟩))).alloc (.cells #[.slice none 0 0] 337)) w.heap.size (.slice none 0 0) := by
    have := heap_alloc_new (w.setCell ⟨sb, 0, none⟩ (.pointer (some ⟨w.heap.size, 0, none⟩))) (.cells #[.slice none 0 0] 337)
    rw [setCell_size] at this; exact ⟨_, this⟩
  have hCB : Chg S w ((w.setCell ⟨sb, 0, none⟩ (.pointer (some ⟨w.heap.size, 0, none⟩))).alloc (.cells #[.slice none 0 0] 337)) :=
    ((Chg.refl S w).setCell (fun _ => hS) _).alloc _
  have hsz : ((w.setCell ⟨sb, 0, none⟩ (.pointer (some ⟨w.heap.size, 0, none⟩))).alloc (.cells #[.slice none 0 0] 337)).heap.size = w.heap.size + 1 := by
    show ((w.setCell ⟨sb, 0, none⟩ (.pointer (some ⟨w.heap.size, 0, none⟩))).heap.push _).size = _; rw [Array.size_push, setCell_size]
  have hin := inner_nat _ w.heap.size none 0 0 n hIB (Nat.le_refl _) (by omega) (by omega) (by omega) (.inl ⟨rfl, rfl⟩) (fun rb hb => by cases hb)
  have HH := Lib.hid (And.intro hB (And.intro hIB (And.intro hCB (And.intro hsz h))))
  have hwbA : ∀ b o m, Wb w b o m → Wb ((w.setCell ⟨sb, 0, none⟩ (.pointer (some ⟨w.heap.size, 0, none⟩))).alloc (.cells #[.slice none 0 0] 337)) b o m :=
    fun b o m hw => ((Chg.refl (fun _ => False) _).alloc _).wb (hw.setCell _ _) (fun h => h)
  clear hA hIA h hB hIB hCB hsz
  go_enter Tryz.func96, Tryz.ntmps96
  go_wp2_with fail
  refine hin.mono ?_
  rintro e w1 ⟨rb, l', c', rfl, k1, k2, k3, k4, k5, k6, k7, k8, kw, k9⟩
  have HK := Lib.hid (And.intro k1 (And.intro k6 (And.intro k7 (And.intro k8 (And.intro kw (And.intro k9 hwbA))))))
  clear k1 k6 k7 k8 kw k9 hin hwbA
  go_wp2
  go_ret
  obtain ⟨k1, k6, k7, k8, kw, k9, hwbA⟩ := HK.out
  obtain ⟨hB, hIB, hCB, hsz, h⟩ := HH.out
  have h9 : w.heap.size + 1 ≤ rb := by
    rcases k9 with ⟨h9, _⟩ | h9
    · cases h9
    · rw [hsz] at h9; exact h9
  refine ⟨rb, 0, n, l', fun k => S k ∨ w.heap.size ≤ k, rfl, Nat.le_refl _, by omega, k6.mono (by omega), ⟨.inl hS, .inr ⟨w.heap.size, _, c', hB.keep k8 (by omega), k1, k4, k5, .inr ⟨rb, rfl, k6⟩, by omega, .inr (Nat.le_refl _), ?_⟩⟩,
    fun k hk => hk, fun k hk => .inl hk, .inr (by omega), by omega, by omega, .inl (by omega), ?_, fun b o m hw => kw _ _ _ (hwbA _ _ _ hw), ?_⟩
  · intro rb' e'
    injection e' with e'; injection e' with e'; subst e'
    exact ⟨k7, by omega, .inr (by omega)⟩
  · exact hCB.trans k8 (fun k hk => hk) (fun k hk h => by omega)
  · intro b o m X hb hr hd
    by_cases h1 : b = sb
    · subst h1
      have := h.no_word (wd_pointer X _) hr
      subst this
      intro i hi; omega
    · refine k8.rd ?_ (by omega) (by omega)
      refine ((Chg.refl (fun _ => False) _).alloc _).rd (fun i hi => ?_) (by rw [setCell_size]; exact hb) (fun h => h)
      rw [cell_set_ne _ _ _ _ _ _ (.inl h1)]
      exact hr i hi

theorem stack_nat (w : World) (sb l n : Nat) (S : Nat → Prop) (hS : Stk w sb l S) (hSl : ∀ k, S k → k < w.heap.size) (hn0 : 0 < n) (hln : l + n ≤ 900000) :
    Calls Tryz.prog 96 #[.pointer (some ⟨sb, 0, none⟩), .int .i64 n] w (SNat sb l n S w) := by
  obtain ⟨h0, ⟨rfl, h⟩ | ⟨ib, base, c, h1, h2, h3, h4, h5, h6, h7, h8⟩⟩ := hS
  · by_cases h4 : n ≤ 4
    · exact stack_nat_small w sb n S h0 hSl h hn0 h4
    · exact stack_nat_new w sb n S h0 h (by omega) (by omega)
  · exact stack_nat_some w sb l n S h0 ib base c h1 h2 h3 h4 hn0 hln h5 h6 h7 h8

theorem stack_save (w : World) (sb l : Nat) (S : Nat → Prop) (hS : Stk w sb l S) :
    Calls Tryz.prog 95 #[.pointer (some ⟨sb, 0, none⟩)] w fun e w' => e = .returned (.int .i64 l) ∧ w = w' := by
  obtain ⟨h0, ⟨rfl, h⟩ | ⟨ib, base, c, h1, h2, h3, h4, h5, h6, h7, h8⟩⟩ := hS
  · exact save_none w sb h.cell
  · exact save_some w sb ib base l c h1.cell h2.cell
/-- what a call leaves that only sets the stack's own blocks -/
def Quiet (S : Nat → Prop) (w : World) (e : Ending) (w' : World) : Prop :=
  e = .returned (.tuple #[]) ∧ Chg S w w' ∧ (∀ b o m, Wb w b o m → Wb w' b o m) ∧ (∀ b o m X, Rd w b o m X → Rd w' b o m X)
theorem quiet_set {S : Nat → Prop} {w : World} {ib : Nat} {v v' : Value} (h : One w ib v) (hv : ∀ X i, v ≠ wd X i) (hS : S ib) : Quiet S w (.returned (.tuple #[])) (w.setCell ⟨ib, 0, none⟩ v') := by
  refine ⟨rfl, (Chg.refl S w).setCell (fun _ => hS) _, fun b o m hw => hw.setCell _ _, fun b o m X hr i hi => ?_⟩
  by_cases h1 : b = ib
  · subst h1
    have := h.no_word (hv X) hr
    omega
  · rw [cell_set_ne _ _ _ _ _ _ (.inl h1)]; exact hr i hi
theorem stack_restore (w : World) (sb l n : Nat) (S : Nat → Prop) (hS : Stk w sb l S) (hn : n ≤ l) :
    Calls Tryz.prog 94 #[.pointer (some ⟨sb, 0, none⟩), .int .i64 n] w fun e w' => Quiet S w e w' ∧ Stk w' sb n S := by
  obtain ⟨h0, ⟨rfl, h⟩ | ⟨ib, base, c, h1, h2, h3, h4, h5, h6, h7, h8⟩⟩ := hS
  · refine (restore_none w sb n h.cell).mono ?_
    rintro e w' ⟨rfl, rfl⟩
    obtain rfl : n = 0 := by omega
    exact ⟨⟨rfl, Chg.refl _ _, fun _ _ _ h => h, fun _ _ _ _ h => h⟩, h0, .inl ⟨rfl, h⟩⟩
  · refine (restore_some w sb ib base l c n h1.cell h2.cell h2.frozen (by omega)).mono ?_
    rintro e w' ⟨rfl, rfl⟩
    refine ⟨quiet_set h2 (fun X => wd_slice X _ _ _) h7, h0, .inr ⟨ib, base, c, h1.other (a := ⟨ib, 0, none⟩) h6 _, h2.set _, by omega, h4, ?_, h6, h7, h8⟩⟩
    rcases h5 with h5 | ⟨rb, rfl, h5⟩
    · exact .inl h5
    · exact .inr ⟨rb, rfl, h5.setCell _ _⟩
theorem stack_free (w : World) (sb l : Nat) (S : Nat → Prop) (hS : Stk w sb l S) :
    Calls Tryz.prog 43 #[.pointer (some ⟨sb, 0, none⟩)] w (Quiet S w) := by
  obtain ⟨h0, ⟨rfl, h⟩ | ⟨ib, base, c, h1, h2, h3, h4, h5, h6, h7, h8⟩⟩ := hS
  · refine (free_none w sb h.cell).mono ?_
    rintro e w' ⟨rfl, rfl⟩
    exact ⟨rfl, Chg.refl _ _, fun _ _ _ h => h, fun _ _ _ _ h => h⟩
  · refine (free_some w sb ib base l c h1.cell h2.cell h2.frozen).mono ?_
    rintro e w' ⟨rfl, rfl⟩
    exact quiet_set h2 (fun X => wd_slice X _ _ _) h7
/-- a stack lives on where only other blocks, or words of its own row, are written -/
theorem Stk.wr {w w' : World} {sb l : Nat} {S : Nat → Prop} (h : Stk w sb l S) {b o n Z : Nat} (hw : Wr w w' b o n Z) (h1 : b ≠ sb) (h2 : ∀ v, (∀ X i, v ≠ wd X i) → ¬ One w b v) : Stk w' sb l S := by
  obtain ⟨h0, ⟨rfl, h⟩ | ⟨ib, base, c, k1, k2, k3, k4, k5, k6, k7, k8⟩⟩ := h
  · exact ⟨h0, .inl ⟨rfl, h.keep hw.chg (fun h => h1 h.symm)⟩⟩
  · have hib : ib ≠ b := fun h => h2 _ (fun X => wd_slice X _ _ _) (h ▸ k2)
    refine ⟨h0, .inr ⟨ib, base, c, k1.keep hw.chg (fun h => h1 h.symm), k2.keep hw.chg hib, k3, k4, ?_, k6, k7, k8⟩⟩
    rcases k5 with k5 | ⟨rb, rfl, k5⟩
    · exact .inl k5
    · exact .inr ⟨rb, rfl, hw.wb k5⟩
theorem getStack (w : World) :
    Calls Tryz.prog 42 #[] w fun e w' => e = .returned (.pointer (some ⟨w.heap.size, 0, none⟩)) ∧ Stk w' w.heap.size 0 (fun k => k = w.heap.size) ∧ Chg (fun _ => False) w w' ∧ w'.heap.size = w.heap.size + 1 := by
  refine (getStack_raw w).mono ?_
  rintro e w' ⟨rfl, rfl⟩
  exact ⟨rfl, ⟨rfl, .inl ⟨rfl, _, heap_alloc_new w _⟩⟩, (Chg.refl _ w).alloc _, by show (w.heap.push _).size = _; rw [Array.size_push]⟩
end Go.Proofs.YtbnmgopobmiadaaGreatDoor

/- Contract of greaterThan. -/
namespace Go.Proofs.YtbnmgopobmiadaaGreatDoor
open Go.RowKit

set_option maxRecDepth 100000 in
theorem greaterThan (x1 x2 y1 y2 : Nat) (w : World) (hx : x2 < B) (hy : y2 < B) :
    Calls Tryz.prog 202 #[.int .u64 x1, .int .u64 x2, .int .u64 y1, .int .u64 y2] w fun e w' => e = .returned (.bool (decide (y1 * B + y2 < x1 * B + x2))) ∧ w = w' := by
  have key : ∀ b : Bool, b = decide (y1 * B + y2 < x1 * B + x2) → (Ending.returned (.bool b) = Ending.returned (.bool (decide (y1 * B + y2 < x1 * B + x2))) ∧ w = w) := fun b h => ⟨by rw [h], rfl⟩
  rcases Nat.lt_trichotomy x1 y1 with h | h | h
  · have hd : decide (y1 * B + y2 < x1 * B + x2) = false := by
      rw [decide_eq_false_iff_not]
      have : (x1 + 1) * B ≤ y1 * B := Nat.mul_le_mul_right _ h
      rw [Nat.add_mul, Nat.one_mul] at this; omega
    have h1 : ¬ (y1 : Int) < x1 := by omega
    have h2 : ((x1 : Int) == y1) = false := beq_eq_false_iff_ne.2 (by omega)
    rw [hd] at *
    clear hx hy hd h
    go_enter Tryz.func202, Tryz.ntmps202
    go_wp2
    go_ret
    exact ⟨rfl, rfl⟩
  · subst h
    have h1 : ¬ (x1 : Int) < x1 := by omega
    have h2 : ((x1 : Int) == x1) = true := beq_iff_eq.2 rfl
    by_cases h3 : y2 < x2
    · have hd : decide (x1 * B + y2 < x1 * B + x2) = true := by rw [decide_eq_true_iff]; omega
      have h4 : (y2 : Int) < x2 := by omega
      rw [hd] at *
      clear hx hy hd h3
      go_enter Tryz.func202, Tryz.ntmps202
      go_wp2
      go_ret
      exact ⟨rfl, rfl⟩
    · have hd : decide (x1 * B + y2 < x1 * B + x2) = false := by rw [decide_eq_false_iff_not]; omega
      have h4 : ¬ (y2 : Int) < x2 := by omega
      rw [hd] at *
      clear hx hy hd h3
      go_enter Tryz.func202, Tryz.ntmps202
      go_wp2
      go_ret
      exact ⟨rfl, rfl⟩
  · have hd : decide (y1 * B + y2 < x1 * B + x2) = true := by
      rw [decide_eq_true_iff]
      have : (y1 + 1) * B ≤ x1 * B := Nat.mul_le_mul_right _ h
      rw [Nat.add_mul, Nat.one_mul] at this; omega
    have h1 : (y1 : Int) < x1 := by omega
    rw [hd] at *
    clear hx hy hd h
    go_enter Tryz.func202, Tryz.ntmps202
    go_wp2
    go_ret
    exact ⟨rfl, rfl⟩
end Go.Proofs.YtbnmgopobmiadaaGreatDoor

/- The deferred calls of restore, free. -/
namespace Go.Proofs.YtbnmgopobmiadaaGreatDoor
open Go.RowKit

set_option maxRecDepth 100000 in
theorem restore_none_d (u : FrameMode) (w : World) (sb n : Nat) (h : w.cell? ⟨sb, 0, none⟩ = some (.pointer none)) :
    CallsD Tryz.prog 94 #[.pointer (some ⟨sb, 0, none⟩), .int .i64 n] u w fun e u' w' => u' = u ∧ e = .returned (.tuple #[]) ∧ w = w' := by
  go_enter_d Tryz.func94, Tryz.ntmps94
  go_wp2
  refine bodyPost_ret (results_none rfl _ _ _) rfl ?_
  exact ⟨rfl, rfl⟩
set_option maxRecDepth 100000 in
theorem restore_some_d (u : FrameMode) (w : World) (sb ib : Nat) (base : Option Addr) (l c n : Nat) (h : w.cell? ⟨sb, 0, none⟩ = some (.pointer (some ⟨ib, 0, none⟩))) (hi : w.cell? ⟨ib, 0, none⟩ = some (.slice base l c))
    (hf : w.frozen? ⟨ib, 0, none⟩ = false) (hn : n ≤ c) :
    CallsD Tryz.prog 94 #[.pointer (some ⟨sb, 0, none⟩), .int .i64 n] u w fun e u' w' => u' = u ∧ e = .returned (.tuple #[]) ∧ w' = w.setCell ⟨ib, 0, none⟩ (.slice base n c) := by
  go_enter_d Tryz.func94, Tryz.ntmps94
  go_wp2_with fail
  refine (restore_in w ib base l c n hi hf hn).mono ?_
  rintro e w' ⟨rfl, rfl⟩
  go_wp2
  go_end0
  exact ⟨rfl, rfl⟩
set_option maxRecDepth 100000 in
theorem free_none_d (u : FrameMode) (w : World) (sb : Nat) (h : w.cell? ⟨sb, 0, none⟩ = some (.pointer none)) :
    CallsD Tryz.prog 43 #[.pointer (some ⟨sb, 0, none⟩)] u w fun e u' w' => u' = u ∧ e = .returned (.tuple #[]) ∧ w = w' := by
  go_enter_d Tryz.func43, Tryz.ntmps43
  go_wp2
  go_end0
  exact ⟨rfl, rfl⟩
set_option maxRecDepth 100000 in
theorem free_some_d (u : FrameMode) (w : World) (sb ib : Nat) (base : Option Addr) (l c : Nat) (h : w.cell? ⟨sb, 0, none⟩ = some (.pointer (some ⟨ib, 0, none⟩))) (hi : w.cell? ⟨ib, 0, none⟩ = some (.slice base l c))
    (hf : w.frozen? ⟨ib, 0, none⟩ = false) :
    CallsD Tryz.prog 43 #[.pointer (some ⟨sb, 0, none⟩)] u w fun e u' w' => u' = u ∧ e = .returned (.tuple #[]) ∧ w' = w.setCell ⟨ib, 0, none⟩ (.slice base 0 c) := by
  go_enter_d Tryz.func43, Tryz.ntmps43
  go_wp2_with fail
  refine (free_in w ib base l c hi hf).mono ?_
  rintro e w' ⟨rfl, rfl⟩
  go_wp2
  go_end0
  exact ⟨rfl, rfl⟩

theorem stack_restore_d (u : FrameMode) (w : World) (sb l n : Nat) (S : Nat → Prop) (hS : Stk w sb l S) (hn : n ≤ l) :
    CallsD Tryz.prog 94 #[.pointer (some ⟨sb, 0, none⟩), .int .i64 n] u w fun e u' w' => u' = u ∧ Quiet S w e w' ∧ Stk w' sb n S := by
  obtain ⟨h0, ⟨rfl, h⟩ | ⟨ib, base, c, h1, h2, h3, h4, h5, h6, h7, h8⟩⟩ := hS
  · refine (restore_none_d u w sb n h.cell).mono ?_
    rintro e u' w' ⟨rfl, rfl, rfl⟩
    obtain rfl : n = 0 := by omega
    exact ⟨rfl, ⟨rfl, Chg.refl _ _, fun _ _ _ h => h, fun _ _ _ _ h => h⟩, h0, .inl ⟨rfl, h⟩⟩
  · refine (restore_some_d u w sb ib base l c n h1.cell h2.cell h2.frozen (by omega)).mono ?_
    rintro e u' w' ⟨rfl, rfl, rfl⟩
    refine ⟨rfl, quiet_set h2 (fun X => wd_slice X _ _ _) h7, h0, .inr ⟨ib, base, c, h1.other (a := ⟨ib, 0, none⟩) h6 _, h2.set _, by omega, h4, ?_, h6, h7, h8⟩⟩
    rcases h5 with h5 | ⟨rb, rfl, h5⟩
    · exact .inl h5
    · exact .inr ⟨rb, rfl, h5.setCell _ _⟩
theorem stack_free_d (u : FrameMode) (w : World) (sb l : Nat) (S : Nat → Prop) (hS : Stk w sb l S) :
    CallsD Tryz.prog 43 #[.pointer (some ⟨sb, 0, none⟩)] u w fun e u' w' => u' = u ∧ Quiet S w e w' := by
  obtain ⟨h0, ⟨rfl, h⟩ | ⟨ib, base, c, h1, h2, h3, h4, h5, h6, h7, h8⟩⟩ := hS
  · refine (free_none_d u w sb h.cell).mono ?_
    rintro e u' w' ⟨rfl, rfl, rfl⟩
    exact ⟨rfl, rfl, Chg.refl _ _, fun _ _ _ h => h, fun _ _ _ _ h => h⟩
  · refine (free_some_d u w sb ib base l c h1.cell h2.cell h2.frozen).mono ?_
    rintro e u' w' ⟨rfl, rfl, rfl⟩
    exact ⟨rfl, quiet_set h2 (fun X => wd_slice X _ _ _) h7⟩
end Go.Proofs.YtbnmgopobmiadaaGreatDoor

/- divBasic: the memory of its loop. -/
namespace Go.Proofs.YtbnmgopobmiadaaGreatDoor
open Go.RowKit

theorem Room.keep {S : Nat → Prop} {w w' : World} {base : Option Addr} {c : Nat} (h : Room w base c) (hc : Chg S w w') (hs : ∀ rb, base = some ⟨rb, 0, none⟩ → ¬ S rb) : Room w' base c := by
  rcases h with h | ⟨rb, rfl, h⟩
  · exact .inl h
  · exact .inr ⟨rb, rfl, hc.wb h (hs rb rfl)⟩
theorem Stk.keep {S T : Nat → Prop} {w w' : World} {sb l : Nat} (h : Stk w sb l S) (hc : Chg T w w') (hs : ∀ k, S k → ¬ T k) : Stk w' sb l S := by
  obtain ⟨h0, ⟨rfl, h⟩ | ⟨ib, base, c, k1, k2, k3, k4, k5, k6, k7, k8⟩⟩ := h
  · exact ⟨h0, .inl ⟨rfl, h.keep hc (hs _ h0)⟩⟩
  · exact ⟨h0, .inr ⟨ib, base, c, k1.keep hc (hs _ h0), k2.keep hc (hs _ k7), k3, k4, k5.keep hc (fun rb hb => hs _ (k8 rb hb).2.2), k6, k7, k8⟩⟩
theorem One.small {w : World} {b o n : Nat} {v : Value} (h : One w b v) (hw : Wb w b o n) : o + n ≤ 1 := by
  obtain ⟨e, h⟩ := h
  obtain ⟨c, e', h', hs⟩ := hw
  rw [h] at h'; cases h'; exact hs
theorem Stk.wr' {w w' : World} {sb l : Nat} {S : Nat → Prop} (h : Stk w sb l S) {b o n Z o' m : Nat} (hw : Wr w w' b o n Z) (hb : Wb w b o' m) (hm : 1 < o' + m) : Stk w' sb l S := by
  refine h.wr hw ?_ fun v _ h1 => by have := h1.small hb; omega
  rintro rfl
  obtain ⟨_, ⟨_, h1⟩ | ⟨_, _, _, h1, _⟩⟩ := h
  · have := h1.small hb; omega
  · have := h1.small hb; omega

/-- the memory in divBasic's loop -/
structure DB (w1 : World) (qb ub vb vo hb ho sb l m n : Nat) (S : Nat → Prop) (V A : Nat) (wr : World) : Prop where
  u : Rd wr ub 0 (m + n) A
  v : Rd wr vb vo n V
  stk : Stk wr sb l S
  chg : Chg (fun x => x = qb ∨ x = ub ∨ x = hb) w1 wr
  wb : ∀ b o m, Wb w1 b o m → Wb wr b o m

/-- what lies apart from what -/
structure Apart (w1 : World) (qb ub vb vo hb ho m n : Nat) (S : Nat → Prop) : Prop where
  qu : qb ≠ ub
  qv : qb ≠ vb
  uv : ub ≠ vb
  qh : qb ≠ hb
  uh : ub ≠ hb
  vh : vb ≠ hb ∨ vo + n ≤ ho
  sq : ¬ S qb
  su : ¬ S ub
  n2 : 2 ≤ n
  q : Wb w1 qb 0 m
  uw : Wb w1 ub 0 (m + n)
  h : Wb w1 hb ho (n + 1)

variable {w1 wr w2 : World} {qb ub vb vo hb ho sb l m n : Nat} {S : Nat → Prop} {V A : Nat}

theorem DB.drewN (d : DB w1 qb ub vb vo hb ho sb l m n S V A wr) (k : Nat) : DB w1 qb ub vb vo hb ho sb l m n S V A (wr.drewN k) :=
  ⟨d.u, d.v, d.stk.keep ((Chg.refl (fun _ => False) wr).drewN k) (fun _ _ h => h), d.chg.drewN k, fun b o m h => ((Chg.refl (fun _ => False) wr).drewN k).wb (d.wb b o m h) (fun h => h)⟩

/-- qhatv is written -/
theorem DB.hat (d : DB w1 qb ub vb vo hb ho sb l m n S V A wr) (a : Apart w1 qb ub vb vo hb ho m n S) {k Z : Nat} (hw : Wr wr w2 hb ho k Z) : DB w1 qb ub vb vo hb ho sb l m n S V A w2 :=
  ⟨hw.rd_out d.u (.inl a.uh), hw.rd_out d.v (a.vh.imp id .inl), d.stk.wr' hw (d.wb _ _ _ a.h) (by have := a.n2; omega), d.chg.trans hw.chg (fun k h => h) (fun k _ h => .inr (.inr h)), fun b o m h => hw.wb (d.wb b o m h)⟩
/-- a part of u is written -/
theorem DB.sub (d : DB w1 qb ub vb vo hb ho sb l m n S V A wr) (a : Apart w1 qb ub vb vo hb ho m n S) {j k Z A' : Nat} (hw : Wr wr w2 ub j k Z)
    (h1 : ∀ i, i < m + n → (i < j ∨ j + k ≤ i) → dig A' i = dig A i) (h2 : ∀ i, i < k → dig A' (j + i) = dig Z i) : DB w1 qb ub vb vo hb ho sb l m n S V A' w2 := by
  refine ⟨fun i hi => ?_, hw.rd_out d.v (.inl (Ne.symm a.uv)), d.stk.keep hw.chg (fun k hk h => a.su (h ▸ hk)), d.chg.trans hw.chg (fun k h => h) (fun k _ h => .inr (.inl h)), fun b o m h => hw.wb (d.wb b o m h)⟩
  by_cases hin : i < j ∨ j + k ≤ i
  · rw [hw.cell_out (by dsimp only; omega)]
    have := d.u i hi
    rw [wd, h1 i hi hin]; exact this
  · obtain ⟨t, rfl⟩ : ∃ t, i = j + t := ⟨i - j, by omega⟩
    have := hw.cell_in (i := t) (by omega)
    rw [Nat.zero_add, wd, h2 t (by omega)]; exact this
/-- a word of q is written -/
theorem DB.put (d : DB w1 qb ub vb vo hb ho sb l m n S V A wr) (a : Apart w1 qb ub vb vo hb ho m n S) (j : Nat) (v : Value) : DB w1 qb ub vb vo hb ho sb l m n S V A (wr.setCell ⟨qb, j, none⟩ v) := by
  have hc : Chg (fun k => k = qb) wr (wr.setCell ⟨qb, j, none⟩ v) := (Chg.refl (fun k => k = qb) wr).setCell (a := ⟨qb, j, none⟩) (fun _ => rfl) v
  refine ⟨fun i hi => ?_, fun i hi => ?_, d.stk.keep hc (fun k hk h => a.sq (h ▸ hk)), d.chg.trans hc (fun k h => h) (fun k _ h => .inl h), fun b o m h => (d.wb b o m h).setCell _ _⟩
  · rw [cell_set_ne _ _ _ _ _ _ (.inl a.qu.symm)]; exact d.u i hi
  · rw [cell_set_ne _ _ _ _ _ _ (.inl a.qv.symm)]; exact d.v i hi
/-- the rows of the quotient found so far -/
def Qs (wr : World) (qb m Q k : Nat) : Prop := Rd wr qb (min k m) (m - min k m) (Q / B ^ min k m)
theorem Qs.put {wr w4 : World} {qb m Q j q : Nat} (h : Qs wr qb m Q (j + 1)) (hj : j < m) (hk : ∀ i, w4.cell? ⟨qb, i, none⟩ = wr.cell? ⟨qb, i, none⟩) (hw : Wb w4 qb 0 m) (hq : q = dig Q j) :
    Qs (w4.setCell ⟨qb, j, none⟩ (.int .u64 (q : Nat))) qb m Q j := by
  unfold Qs at *
  rw [Nat.min_eq_left (by omega)] at *
  have hwr : Wr w4 (w4.setCell ⟨qb, j, none⟩ (.int .u64 (q : Nat))) qb j 1 (Q / B ^ j) := by
    have := (Wr.start (hw.mono (o' := j) (n' := 0) (by omega)) (Q / B ^ j)).snoc (m := 1) (hw.mono (by omega)) (by omega) (v := .int .u64 (q : Nat)) (by rw [wd, dig_shift, Nat.zero_add, hq])
    rw [Nat.add_zero, Nat.zero_add] at this; exact this
  intro i hi
  by_cases h0 : i < 1
  · exact hwr.cell_in h0
  · rw [hwr.cell_out (by dsimp only; omega)]
    obtain ⟨t, rfl⟩ : ∃ t, i = t + 1 := ⟨i - 1, by omega⟩
    have := h t (by omega)
    rw [show j + (t + 1) = j + 1 + t by omega, hk, this, wd, wd, dig_shift, dig_shift]
    rw [show t + (j + 1) = t + 1 + j by omega]
end Go.Proofs.YtbnmgopobmiadaaGreatDoor
