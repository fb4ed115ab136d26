/- The validator: its memory; what finds nothing to validate. -/
import Derived.Test.YtbnmgopobmiadaaGreatDoorB45
import Derived.Deep.AppendLies
import Derived.Deep.RegionLaw

set_option linter.unusedSimpArgs false
set_option linter.unusedVariables false

namespace Go.Proofs.YtbnmgopobmiadaaGreatDoor
open Go.RowKit

/-- block vb is a validator -/
def Vdm (w : World) (vb : Nat) (v vl sch scp un errs : Value) : Prop := w.heap[vb]? = some (.cells #[v, vl, sch, scp, un, errs, .bool false] 104 (0, 0))
section
variable {w w' : World} {vb : Nat} {v vl sch scp un errs : Value}
theorem Vdm.c0 (h : Vdm w vb v vl sch scp un errs) : w.cell? ⟨vb, 0, none⟩ = some v := by unfold Vdm at h; simp [World.cell?, h]
theorem Vdm.c1 (h : Vdm w vb v vl sch scp un errs) : w.cell? ⟨vb, 1, none⟩ = some vl := by unfold Vdm at h; simp [World.cell?, h]
theorem Vdm.c2 (h : Vdm w vb v vl sch scp un errs) : w.cell? ⟨vb, 2, none⟩ = some sch := by unfold Vdm at h; simp [World.cell?, h]
theorem Vdm.c3 (h : Vdm w vb v vl sch scp un errs) : w.cell? ⟨vb, 3, none⟩ = some scp := by unfold Vdm at h; simp [World.cell?, h]
theorem Vdm.c4 (h : Vdm w vb v vl sch scp un errs) : w.cell? ⟨vb, 4, none⟩ = some un := by unfold Vdm at h; simp [World.cell?, h]
theorem Vdm.c5 (h : Vdm w vb v vl sch scp un errs) : w.cell? ⟨vb, 5, none⟩ = some errs := by unfold Vdm at h; simp [World.cell?, h]
theorem Vdm.c6 (h : Vdm w vb v vl sch scp un errs) : w.cell? ⟨vb, 6, none⟩ = some (.bool false) := by unfold Vdm at h; simp [World.cell?, h]
theorem Vdm.frozen (h : Vdm w vb v vl sch scp un errs) (j : Nat) : w.frozen? ⟨vb, j, none⟩ = false := by unfold Vdm at h; simp [World.frozen?, h]
theorem Vdm.lt (h : Vdm w vb v vl sch scp un errs) : vb < w.heap.size := (Array.getElem?_eq_some_iff.1 h).1
theorem Vdm.keep {S : Nat → Prop} (h : Vdm w vb v vl sch scp un errs) (hc : Chg S w w') (hs : ¬ S vb) : Vdm w' vb v vl sch scp un errs := (hc.keep vb h.lt hs).trans h
theorem Vdm.set5 (h : Vdm w vb v vl sch scp un errs) (e : Value) : Vdm (w.setCell ⟨vb, 5, none⟩ e) vb v vl sch scp un e := (setCell_block _ _ _ _ h).trans (by simp)
end

set_option maxHeartbeats 1000000 in
set_option maxRecDepth 100000 in
theorem validateRefs_none (vb sb : Nat) (v vl scp un errs p q : Value) (w : World) (h : Vdm w vb v vl (.pointer (some ⟨sb, 0, none⟩)) scp un errs) (hs : Sch w sb p q) :
    Calls Tryz.prog 65 #[.pointer (some ⟨vb, 0, none⟩)] w fun e w' => e = .returned (.tuple #[]) ∧ w = w' := by
  have c2 := h.c2
  have s13 := hs.get 13 (v := .pointer none) rfl
  have s15 := hs.get 15 (v := .pointer none) rfl
  clear h hs
  go_enter Tryz.func65, Tryz.ntmps65
  go_wp2
  go_end0
  exact ⟨rfl, rfl⟩

set_option maxHeartbeats 1000000 in
set_option maxRecDepth 100000 in
theorem condValidate_none (vb sb : Nat) (v vl scp un errs p q : Value) (w : World) (h : Vdm w vb v vl (.pointer (some ⟨sb, 0, none⟩)) scp un errs) (hs : Sch w sb p q) :
    Calls Tryz.prog 66 #[.pointer (some ⟨vb, 0, none⟩)] w fun e w' => e = .returned (.tuple #[]) ∧ w = w' := by
  have c2 := h.c2
  have s20 := hs.get 20 (v := .pointer none) rfl
  have s21 := hs.get 21 (v := .slice none 0 0) rfl
  have s22 := hs.get 22 (v := .slice none 0 0) rfl
  have s23 := hs.get 23 (v := .slice none 0 0) rfl
  have s24 := hs.get 24 (v := .pointer none) rfl
  clear h hs
  go_enter Tryz.func66, Tryz.ntmps66
  go_wp2
  go_end0
  exact ⟨rfl, rfl⟩

set_option maxHeartbeats 1000000 in
set_option maxRecDepth 100000 in
theorem unevalValidate_none (vb sb : Nat) (s : ByteArray) (vl scp un errs : Value) (w : World) (h : Vdm w vb (num s) vl (.pointer (some ⟨sb, 0, none⟩)) scp un errs) :
    Calls Tryz.prog 67 #[.pointer (some ⟨vb, 0, none⟩)] w fun e w' => e = .returned (.tuple #[]) ∧ w = w' := by
  have c2 := h.c2
  have c0 := h.c0
  have h54 := fun w => as54 s w
  have h58 := fun w => as58 s w
  unfold num at c0
  clear h
  go_enter Tryz.func67, Tryz.ntmps67
  go_wp2
  go_end0
  exact ⟨rfl, rfl⟩

set_option maxHeartbeats 1000000 in
set_option maxRecDepth 100000 in
theorem instLoc_any (vb b c : Nat) (v sch scp un errs : Value) (w : World) (h : Vdm w vb v (.slice (some ⟨b, 0, none⟩) 0 c) sch scp un errs) :
    Calls Tryz.prog 100 #[.pointer (some ⟨vb, 0, none⟩)] w fun e w' => e = .returned (.slice (some ⟨w.heap.size, 0, none⟩) 0 0) ∧ Chg (fun _ => False) w w' := by
  have hne : ∀ w, (binOp .eql 28 (.slice (some ⟨b, 0, none⟩) 0 c) (.slice none 0 0)).run Tryz.prog w = .ok (.bool false) w := fun w => Lib.run_eql_slice_nil (P := Tryz.prog) w 28 9 _ _ _ _ _ Tryz.underlying28
  have c1 := h.c1
  clear h
  go_enter Tryz.func100, Tryz.ntmps100
  go_wp2
  go_ret
  exact ⟨rfl, (Chg.refl _ w).alloc _⟩

/-- an error is made -/
def ErrAt (k : Value) (w : World) (e : Ending) (w' : World) : Prop :=
  ∃ N vl, e = .returned (.pointer (some ⟨N, 0, none⟩)) ∧ w.heap.size ≤ N ∧ w'.heap[N]? = some (.cells #[.string ⟨#[]⟩, vl, k, .slice none 0 0] 113 (0, 0)) ∧ Chg (fun _ => False) w w'
set_option maxHeartbeats 4000000 in
set_option maxRecDepth 100000 in
theorem error_any (vb b c sb : Nat) (kt : TypeId) (v scp un errs p q kv : Value) (w : World) (h : Vdm w vb v (.slice (some ⟨b, 0, none⟩) 0 c) (.pointer (some ⟨sb, 0, none⟩)) scp un errs) (hs : Sch w sb p q) :
    Calls Tryz.prog 49 #[.pointer (some ⟨vb, 0, none⟩), .iface kt kv] w (ErrAt (.iface kt kv) w) := by
  have c6 := h.c6
  have c2 := h.c2
  have s8 := hs.get 8 (v := .string ⟨#[]⟩) rfl
  have hil := fun n => instLoc_any vb b c v (.pointer (some ⟨sb, 0, none⟩)) scp un errs (w.drewN n) h
  have HI := Lib.hid hil
  clear h hs hil
  go_enter Tryz.func49, Tryz.ntmps49
  go_wp2
  go_region_held3 (fun w' => w'.cell? ⟨vb, 2, none⟩ = some (.pointer (some ⟨sb, 0, none⟩)) ∧ w'.cell? ⟨sb, 8, none⟩ = some (.string ⟨#[]⟩)) (go_keep)
    (first
      | (go_at_call 100; refine (HI.out _).mono ?_; rintro e w1 ⟨rfl, hc⟩; have d1 := hc.cell (a := ⟨vb, 2, none⟩) (v := .pointer (some ⟨sb, 0, none⟩)) c2 (fun h => h); have d2 := hc.cell (a := ⟨sb, 8, none⟩) (v := .string ⟨#[]⟩) s8 (fun h => h)))
  all_goals
    have hc' := hc.undrewN
    clear hc HI
    go_wp2
    go_ret
    exact ⟨w1.heap.size, _, rfl, hc'.size, heap_alloc_new _ _, hc'.alloc _⟩

theorem step_call {ops : Array Oper} {o : Oper} {a : Act} {w : World} {K : Act → World → Prop} {Q : Exit → Act → World → Prop} {E : Prop} (hg : o.guard = none) (f : FuncId) (args : Array Value) {R : Ending → World → Prop}
    (hrun : (execOp a.eval o).run Tryz.prog w = .ok (.enter f args) w) (hc : Calls Tryz.prog f args w R) (h : ∀ e w'', R e w'' → ∃ v, e = .returned v ∧ K (a.put o.dst v) w'') :
    if Region.wanted o (yielded ops a.tmps) = true then Oper.wp Tryz.prog o a w K Q else E := by
  have hw : Region.wanted o (yielded ops a.tmps) = true := by simp [Region.wanted, hg]
  rw [if_pos hw]
  unfold Oper.wp
  rw [hrun, Oper.upon_enter]
  refine hc.mono fun e w'' hh => ?_
  obtain ⟨v, rfl, hk⟩ := h e w'' hh
  exact hk

theorem info107 : (Tryz.prog.info? 107).map (fun i => (i.zero, i.size, i.bytes)) = some (some (.pointer none), 1, 8) := by kernel_rfl
/-- one error is noted -/
def Noted (vb sb pb ub : Nat) (s : ByteArray) (vl k : Value) (w : World) (e : Ending) (w' : World) : Prop :=
  ∃ g cap N vl2, e = .returned (.tuple #[]) ∧ Vdm w' vb (num s) vl (.pointer (some ⟨sb, 0, none⟩)) (.pointer (some ⟨pb, 0, none⟩)) (.pointer (some ⟨ub, 0, none⟩)) (.slice (some ⟨g, 0, none⟩) 1 cap) ∧ w'.cell? ⟨g, 0, none⟩ = some (.pointer (some ⟨N, 0, none⟩)) ∧ w.heap.size ≤ g ∧ w.heap.size ≤ N ∧
    w'.heap[N]? = some (.cells #[.string ⟨#[]⟩, vl2, k, .slice none 0 0] 113 (0, 0)) ∧ Chg (fun k => k = vb) w w'
theorem note_chg {w w1 w2 : World} {o : Obj} (hc : Chg (fun _ => False) w w1) (hg : (w1.alloc o).grownBy w2 (Value.slice none 0 0).ownBlock) : Chg (fun _ => False) w w2 := by
  have h2 : Chg (fun k => w.heap.size ≤ k) (w1.alloc o) w2 := chg_of_grown hg (fun k h => by simp [Value.ownBlock] at h)
  exact (hc.alloc o).trans h2 (fun _ h => h) (fun k hk h => by have h1 : w.heap.size ≤ k := h; omega)
theorem note_end {vb sb pb ub N g cap : Nat} {s : ByteArray} {vl vl2 k : Value} {w w1 w2 : World} {o : Obj} (h : Vdm w vb (num s) vl (.pointer (some ⟨sb, 0, none⟩)) (.pointer (some ⟨pb, 0, none⟩)) (.pointer (some ⟨ub, 0, none⟩)) (.slice none 0 0)) (hN : w.heap.size ≤ N)
    (hNb : w1.heap[N]? = some (.cells #[.string ⟨#[]⟩, vl2, k, .slice none 0 0] 113 (0, 0))) (hc : Chg (fun _ => False) w w1) (hown : w2.ownsRow w.heap.size 107 1 (.slice (some ⟨g, 0, none⟩) 1 cap) 1 [.pointer (some ⟨N, 0, none⟩)])
    (hg : (w1.alloc o).grownBy w2 (Value.slice none 0 0).ownBlock) (hat : (Value.slice none 0 0).ownBlock = some g ∨ g = w1.heap.size + 1) :
    Noted vb sb pb ub s vl k w (.returned (.tuple #[])) (w2.setCell ⟨vb, 5, none⟩ (.slice (some ⟨g, 0, none⟩) 1 cap)) := by
  have hvl := h.lt
  have hg1 : g = w1.heap.size + 1 := by
    rcases hat with h1 | h1
    · simp [Value.ownBlock] at h1
    · exact h1
  have hs := hc.size
  have hNl := (Array.getElem?_eq_some_iff.1 hNb).1
  have k2 := note_chg hc hg
  have c2 : Chg (fun k => k = vb) w2 (w2.setCell ⟨vb, 5, none⟩ (.slice (some ⟨g, 0, none⟩) 1 cap)) := (Chg.refl (fun k => k = vb) w2).setCell (a := ⟨vb, 5, none⟩) (fun _ => rfl) _
  have hc0 : w2.cell? ⟨g, 0, none⟩ = some (.pointer (some ⟨N, 0, none⟩)) := by
    obtain ⟨h1, ⟨h2, _⟩ | ⟨g', cap', cur, h2, h3, h4, h5, h6, h7, h8⟩⟩ := hown
    · cases h2
    · cases h2
      have h9 : cur.toList[0]? = some (.pointer (some ⟨N, 0, none⟩)) := by
        have h10 : (cur.toList.take (1 * 1))[0]? = some (.pointer (some ⟨N, 0, none⟩)) := by rw [h8]; rfl
        rwa [List.getElem?_take_of_lt (by omega)] at h10
      simp only [World.cell?, h4]
      rw [← Array.getElem?_toList]; exact h9
  refine ⟨g, cap, N, vl2, rfl, (h.keep k2 (fun h => h)).set5 _, c2.cell hc0 (fun h => by have h1 : g = vb := h; omega), by omega, hN, ?_, k2.trans c2 (fun _ h => h.elim) (fun _ _ h => h)⟩
  refine (c2.keep N ?_ (fun h => by have h1 : N = vb := h; omega)).trans ?_
  · have h3 := hg.size
    rw [alloc_size] at h3; omega
  · refine (hg.block N (by rw [alloc_size]; omega) (fun h => by simp [Value.ownBlock] at h)).trans ?_
    exact (Below.heap_alloc _ _ _ hNl).trans hNb
set_option maxHeartbeats 4000000 in
set_option maxRecDepth 100000 in
theorem addError_any (vb b c sb pb ub : Nat) (kt : TypeId) (s : ByteArray) (p q kv : Value) (w : World) (h : Vdm w vb (num s) (.slice (some ⟨b, 0, none⟩) 0 c) (.pointer (some ⟨sb, 0, none⟩)) (.pointer (some ⟨pb, 0, none⟩)) (.pointer (some ⟨ub, 0, none⟩)) (.slice none 0 0)) (hs : Sch w sb p q) :
    Calls Tryz.prog 108 #[.pointer (some ⟨vb, 0, none⟩), .iface kt kv] w (Noted vb sb pb ub s (.slice (some ⟨b, 0, none⟩) 0 c) (.iface kt kv) w) := by
  have c5 := h.c5
  have her := fun n => error_any vb b c sb kt (num s) (.pointer (some ⟨pb, 0, none⟩)) (.pointer (some ⟨ub, 0, none⟩)) (.slice none 0 0) p q kv (w.drewN n) h hs
  obtain ⟨i0, hi, hz0, hz1, hz2⟩ := info_parts info107
  have HE := Lib.hid her
  have HH := Lib.hid (And.intro h hs)
  clear h hs her
  go_enter Tryz.func108, Tryz.ntmps108
  go_wp2
  go_region_law (first
    | (refine step_call rfl 49 _ (by kernel_rfl) (HE.out _) ?_; rintro e w1 ⟨N, vl2, rfl, hN, hNb, hc⟩; refine ⟨_, rfl, ?_⟩; have d5 := hc.cell (a := ⟨vb, 5, none⟩) (v := .slice none 0 0) c5 (fun h => h); have d6 := ((Chg.refl (fun _ => False) w1).alloc (.cells #[.pointer (some ⟨N, 0, none⟩)] 107)).cell (a := ⟨vb, 5, none⟩) d5 (fun h => h))
    | (refine step_append_lies _ rfl (.tmp 8) (.tmp 12) 102 rfl w.heap.size 107 i0 (.pointer none) 1 8 Tryz.underlying102 hi hz0 hz1 hz2 rfl (by decide) (.slice none 0 0) 0 [] (by rfl) ⟨rfl, .inl ⟨rfl, rfl⟩⟩ ⟨w1.heap.size, 0, none⟩ 1 1 [.pointer (some ⟨N, 0, none⟩)] (by rfl) rfl (cell_one_new _ _ _) (fun u hu => by rw [List.mem_singleton] at hu; subst hu; rfl) (by decide) (by unfold maxLen; omega) (by omega) (by have := hc.undrewN.size; simp; omega) (w1.heap.size + 1) (by simp) ?_; intro g cap w2 hown hgrow hat hlt; have k2 := note_chg hc.undrewN hgrow; have dv := HH.out.1.keep k2 (fun h => h); have e5 := dv.c5; have f5 := dv.frozen 5))
  all_goals
    have HF := Lib.hid (note_end HH.out.1 hN hNb hc.undrewN hown hgrow hat)
    clear dv k2 hown hgrow hat hlt hNb hc HE HH
    go_wp2
    go_end0
    exact HF.out
end Go.Proofs.YtbnmgopobmiadaaGreatDoor
