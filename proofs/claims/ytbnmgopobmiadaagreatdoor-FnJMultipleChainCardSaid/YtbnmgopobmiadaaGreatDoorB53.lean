/- (*Schema).validate. -/
import Derived.Test.YtbnmgopobmiadaaGreatDoorB51
import Derived.Outline

set_option linter.unusedSimpArgs false
set_option linter.unusedVariables false

namespace Go.Proofs.YtbnmgopobmiadaaGreatDoor
open Go.RowKit

/-- what Schema.validate hands back -/
def Val23 (ok : Bool) (w : World) (e : Ending) (w' : World) : Prop :=
  ((ok = true ∧ e = .returned .nilIface) ∨ (ok = false ∧ ∃ N, e = .returned (.iface 107 (.pointer (some ⟨N, 0, none⟩))))) ∧ Chg (fun _ => False) w w'
theorem mk8 (w : World) : (Instr.makeSlice 28 (.int .i64 0) (.int .i64 8)).run Tryz.prog w = .ok (.slice (some ⟨w.heap.size, 0, none⟩) 0 8) (w.alloc (.cells #[.string ⟨#[]⟩, .string ⟨#[]⟩, .string ⟨#[]⟩, .string ⟨#[]⟩, .string ⟨#[]⟩, .string ⟨#[]⟩, .string ⟨#[]⟩, .string ⟨#[]⟩] 9)) := by kernel_rfl

section
variable (w : World) (o1 o2 o3 o4 : Obj)
theorem al_chg : Chg (fun _ => False) w ((((w.alloc o1).alloc o2).alloc o3).alloc o4).drew := (((((Chg.refl (fun _ => False) w).alloc _).alloc _).alloc _).alloc _).drew
theorem al3 : ((((w.alloc o1).alloc o2).alloc o3).alloc o4).drew.heap[w.heap.size + 1 + 1 + 1]? = some o4 := by
  have h := heap_alloc_new (((w.alloc o1).alloc o2).alloc o3) o4
  rw [alloc_size, alloc_size, alloc_size] at h; exact h
theorem al2 : ((((w.alloc o1).alloc o2).alloc o3).alloc o4).drew.heap[w.heap.size + 1 + 1]? = some o3 := by
  have h := heap_alloc_new ((w.alloc o1).alloc o2) o3
  rw [alloc_size, alloc_size] at h
  exact (Below.heap_alloc _ _ _ (by rw [alloc_size, alloc_size, alloc_size]; omega)).trans h
theorem al1 : ((((w.alloc o1).alloc o2).alloc o3).alloc o4).drew.heap[w.heap.size + 1]? = some o2 := by
  have h := heap_alloc_new (w.alloc o1) o2
  rw [alloc_size] at h
  exact (Below.heap_alloc _ _ _ (by rw [alloc_size, alloc_size, alloc_size]; omega)).trans ((Below.heap_alloc _ _ _ (by rw [alloc_size, alloc_size]; omega)).trans h)
theorem al0 : ((((w.alloc o1).alloc o2).alloc o3).alloc o4).drew.heap[w.heap.size]? = some o1 :=
  (Below.heap_alloc _ _ _ (by rw [alloc_size, alloc_size, alloc_size]; omega)).trans ((Below.heap_alloc _ _ _ (by rw [alloc_size, alloc_size]; omega)).trans ((Below.heap_alloc _ _ _ (by rw [alloc_size]; omega)).trans (heap_alloc_new w o1)))
end
theorem as107 (N : Nat) (w : World) : (Instr.typeAssert (.iface 107 (.pointer (some ⟨N, 0, none⟩))) 62 107 false).run Tryz.prog w = .ok (.pointer (some ⟨N, 0, none⟩)) w := by kernel_rfl
theorem as108 (kt : TypeId) (kv : Value) (hk : kt ≠ 108) (w : World) : (Instr.typeAssert (.iface kt kv) 111 108 true).run Tryz.prog w = .ok (.tuple #[.pointer none, .bool false]) w := by
  have hz : (zeroValue 108).run Tryz.prog w = .ok (.pointer none) w := by kernel_rfl
  simp [Instr.typeAssert, run_underlying Tryz.underlying108, hk, hz, Result.andThen]

theorem cell_al {w : World} {o : Obj} {a : Addr} {v : Value} (h : w.cell? a = some v) : (w.alloc o).cell? a = some v := by
  have hb : a.block < w.heap.size := by
    apply Decidable.byContradiction
    intro hn
    have : w.heap[a.block]? = none := Array.getElem?_eq_none (by omega)
    simp [World.cell?, this] at h
  simp only [World.cell?] at h ⊢
  rw [Below.heap_alloc _ _ _ hb]
  exact h
theorem cell_dr {w : World} {a : Addr} {v : Value} (h : w.cell? a = some v) : w.drew.cell? a = some v := h
theorem rel23 {w wd : World} {s5 : Value} {sb : Nat} {s : ByteArray} {p q : Value} {vb pb ub b c : Nat} (e : s5 = .pointer (some ⟨vb, 0, none⟩))
    (vd : Vdm wd vb (num s) (.slice (some ⟨b, 0, none⟩) 0 c) (.pointer (some ⟨sb, 0, none⟩)) (.pointer (some ⟨pb, 0, none⟩)) (.pointer (some ⟨ub, 0, none⟩)) (.slice none 0 0))
    (sp : Scp wd pb (.pointer (some ⟨sb, 0, none⟩))) (sc : Sch wd sb p q) (hv : w.heap.size ≤ vb) (hc : Chg (fun _ => False) w wd) :
    ∃ vb pb ub b c, s5 = .pointer (some ⟨vb, 0, none⟩) ∧ Vall wd vb sb pb ub b c s p q ∧ w.heap.size ≤ vb ∧ Chg (fun _ => False) w wd :=
  ⟨vb, pb, ub, b, c, e, ⟨vd, sc, sp⟩, hv, hc⟩
set_option maxHeartbeats 16000000 in
set_option maxRecDepth 100000 in
theorem validate_any (sb : Nat) (s : ByteArray) (p q : Value) (ok : Bool) (w : World) (hs : Sch w sb p q)
    (h33 : ∀ w1 vb pb ub b c, Chg (fun _ => False) w w1 → w.heap.size ≤ vb → Vall w1 vb sb pb ub b c s p q → Calls Tryz.prog 33 #[.pointer (some ⟨vb, 0, none⟩)] w1 (Vd33 ok ub vb w1)) :
    Calls Tryz.prog 23 #[.pointer (some ⟨sb, 0, none⟩), num s] w (Val23 ok w) := by
  have hmk := mk8
  have hun := fun w' => unevalFrom_num s (.pointer (some ⟨sb, 0, none⟩)) w'
  have HU := Lib.hid hun
  have H33 := Lib.hid h33
  have HS := Lib.hid hs
  clear hun h33 hs
  unfold num at HU ⊢
  go_enter Tryz.func23, Tryz.ntmps23
  go_upto_region 1 with (fail)
  go_cut [5] from 12 to 21 (fun s5 wd => ∃ vb pb ub b c, s5 = .pointer (some ⟨vb, 0, none⟩) ∧ Vall wd vb sb pb ub b c s p q ∧ w.heap.size ≤ vb ∧ Chg (fun _ => False) w wd)
  case first =>
    go_region_with (go_at_call 32; refine (HU.out _).mono ?_; rintro e wx ⟨rfl, rfl⟩)
    all_goals
      go_wp2
      go_meet
      case rel =>
        first
        | exact rel23 rfl (al0 _ _ _ _ _) (al1 _ _ _ _ _) (HS.out.keep (al_chg _ _ _ _ _) (fun h => h)) (by omega) (al_chg _ _ _ _ _)
        | exact rel23 rfl (al0 _ _ _ _ _) (al2 _ _ _ _ _) (HS.out.keep (al_chg _ _ _ _ _) (fun h => h)) (by omega) (al_chg _ _ _ _ _)
        | exact rel23 rfl (al0 _ _ _ _ _) (al3 _ _ _ _ _) (HS.out.keep (al_chg _ _ _ _ _) (fun h => h)) (by omega) (al_chg _ _ _ _ _)
        | exact rel23 rfl (al1 _ _ _ _ _) (al0 _ _ _ _ _) (HS.out.keep (al_chg _ _ _ _ _) (fun h => h)) (by omega) (al_chg _ _ _ _ _)
        | exact rel23 rfl (al1 _ _ _ _ _) (al2 _ _ _ _ _) (HS.out.keep (al_chg _ _ _ _ _) (fun h => h)) (by omega) (al_chg _ _ _ _ _)
        | exact rel23 rfl (al1 _ _ _ _ _) (al3 _ _ _ _ _) (HS.out.keep (al_chg _ _ _ _ _) (fun h => h)) (by omega) (al_chg _ _ _ _ _)
        | exact rel23 rfl (al2 _ _ _ _ _) (al0 _ _ _ _ _) (HS.out.keep (al_chg _ _ _ _ _) (fun h => h)) (by omega) (al_chg _ _ _ _ _)
        | exact rel23 rfl (al2 _ _ _ _ _) (al1 _ _ _ _ _) (HS.out.keep (al_chg _ _ _ _ _) (fun h => h)) (by omega) (al_chg _ _ _ _ _)
        | exact rel23 rfl (al2 _ _ _ _ _) (al3 _ _ _ _ _) (HS.out.keep (al_chg _ _ _ _ _) (fun h => h)) (by omega) (al_chg _ _ _ _ _)
        | exact rel23 rfl (al3 _ _ _ _ _) (al0 _ _ _ _ _) (HS.out.keep (al_chg _ _ _ _ _) (fun h => h)) (by omega) (al_chg _ _ _ _ _)
        | exact rel23 rfl (al3 _ _ _ _ _) (al1 _ _ _ _ _) (HS.out.keep (al_chg _ _ _ _ _) (fun h => h)) (by omega) (al_chg _ _ _ _ _)
        | exact rel23 rfl (al3 _ _ _ _ _) (al2 _ _ _ _ _) (HS.out.keep (al_chg _ _ _ _ _) (fun h => h)) (by omega) (al_chg _ _ _ _ _)
  case rest =>
    obtain ⟨vb, pb, ub, b, c, rfl, hV, hvb, hc⟩ := hcut
    have hr := H33.out wc vb pb ub b c hc hvb hV
    have HR := Lib.hid hr
    have HC := Lib.hid (And.intro hc hvb)
    clear hr hV hc hvb H33 HU hmk
    go_wp2_with fail
    refine HR.out.mono ?_
    rintro e w3 (⟨hok, rfl, hc3⟩ | ⟨hok, N, vl, kt, kv, rfl, hN, hkt, hc3⟩)
    · have HF : Hid (Val23 ok w (.returned .nilIface) w3) := Lib.hid ⟨.inl ⟨hok, rfl⟩, HC.out.1.trans hc3 (fun _ h => h) (fun k hk h => by have h1 : k = vb := h; have := HC.out.2; omega)⟩
      clear hok hc3 HR
      go_wp2
      go_ret
      exact HF.out
    · have k3 : Chg (fun _ => False) w w3 := HC.out.1.trans hc3 (fun _ h => h) (fun k hk h => by have h1 : k = vb := h; have := HC.out.2; omega)
      have s8 := (HS.out.keep k3 (fun h => h)).get 8 (v := .string ⟨#[]⟩) rfl
      have n2 : w3.cell? ⟨N, 2, none⟩ = some (.iface kt kv) := by simp [World.cell?, hN]
      have a107 := fun w => as107 N w
      have a108 := fun w => as108 kt kv hkt w
      have HF : Hid (ok = false ∧ Chg (fun _ => False) w w3) := Lib.hid ⟨hok, k3⟩
      clear hok hc3 k3 hN HR hkt
      go_upto_region 10 with (fail)
      go_region_held3 (fun w' => w'.cell? ⟨sb, 8, none⟩ = some (.string ⟨#[]⟩)) (first | (go_keep; done) | exact cell_al (by assumption) | exact cell_dr (by assumption) | exact cell_dr (cell_al (by assumption)) | exact cell_dr (cell_al (cell_al (by assumption))) | exact cell_dr (cell_al (cell_al (cell_al (by assumption)))) | trace_state) (fail)
      all_goals
        go_wp2
        go_ret
        exact ⟨.inr ⟨HF.out.1, _, rfl⟩, (((HF.out.2.alloc _).alloc _).alloc _).drew⟩
end Go.Proofs.YtbnmgopobmiadaaGreatDoor
