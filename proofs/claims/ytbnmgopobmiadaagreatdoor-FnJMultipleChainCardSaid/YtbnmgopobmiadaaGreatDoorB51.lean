/- Types: contains, String, ToStrings at 'integer'. -/
import Derived.Test.YtbnmgopobmiadaaGreatDoorB49
import Derived.Laws.AppendOwn

set_option linter.unusedSimpArgs false
set_option linter.unusedVariables false

namespace Go.Proofs.YtbnmgopobmiadaaGreatDoor
open Go.RowKit

theorem and16 : bits .and .i64 16 2 = 0 ∧ bits .and .i64 16 4 = 0 ∧ bits .and .i64 16 8 = 0 ∧ bits .and .i64 16 16 = 16 ∧ bits .and .i64 16 32 = 0 ∧ bits .and .i64 16 64 = 0 ∧ bits .and .i64 16 128 = 0 := by decide
theorem contains16_16 (w : World) : Calls Tryz.prog 54 #[.int .i64 16, .int .i64 16] w fun e w' => e = .returned (.bool true) ∧ w = w' := by
  have h := and16.2.2.2.1
  go_enter Tryz.func54, Tryz.ntmps54
  go_wp2
  go_ret
  exact ⟨rfl, rfl⟩
theorem contains16_no (t : Int) (w : World) (h : bits .and .i64 16 t = 0) : Calls Tryz.prog 54 #[.int .i64 16, .int .i64 t] w fun e w' => e = .returned (.bool false) ∧ w = w' := by
  go_enter Tryz.func54, Tryz.ntmps54
  go_wp2
  go_ret
  exact ⟨rfl, rfl⟩
theorem isEmpty16 (w : World) : Calls Tryz.prog 53 #[.int .i64 16] w fun e w' => e = .returned (.bool false) ∧ w = w' := by
  go_enter Tryz.func53, Tryz.ntmps53
  go_wp2
  go_ret
  exact ⟨rfl, rfl⟩
set_option maxRecDepth 100000 in
theorem typeStr8 (w : World) : Calls Tryz.prog 56 #[.int .i64 8] w fun e w' => e = .returned (.string ⟨#[110, 117, 109, 98, 101, 114]⟩) ∧ w = w' := by
  go_enter Tryz.func56, Tryz.ntmps56
  go_wp2
  go_ret
  exact ⟨rfl, rfl⟩
set_option maxRecDepth 100000 in
theorem typeStr16 (w : World) : Calls Tryz.prog 56 #[.int .i64 16] w fun e w' => e = .returned (.string ⟨#[105, 110, 116, 101, 103, 101, 114]⟩) ∧ w = w' := by
  go_enter Tryz.func56, Tryz.ntmps56
  go_wp2
  go_ret
  exact ⟨rfl, rfl⟩
set_option maxRecDepth 100000 in
theorem typeFrom (w : World) : Calls Tryz.prog 25 #[.string ⟨#[105, 110, 116, 101, 103, 101, 114]⟩] w fun e w' => e = .returned (.int .i64 16) ∧ w = w' := by
  go_enter Tryz.func25, Tryz.ntmps25
  go_wp2
  go_ret
  exact ⟨rfl, rfl⟩
theorem typesAdd1 (tb : Nat) (w : World) (h : w.heap[tb]? = some (.cells #[.int .i64 0] 64 (0, 0))) : Calls Tryz.prog 24 #[.pointer (some ⟨tb, 0, none⟩), .int .i64 16] w fun e w' => e = .returned (.tuple #[]) ∧ w' = w.setCell ⟨tb, 0, none⟩ (.int .i64 16) := by
  have c0 : w.cell? ⟨tb, 0, none⟩ = some (.int .i64 0) := by simp [World.cell?, h]
  have f0 : w.frozen? ⟨tb, 0, none⟩ = false := by simp [World.frozen?, h]
  have ho : bits .or .i64 0 16 = 16 := by decide
  clear h
  go_enter Tryz.func24, Tryz.ntmps24
  go_wp2
  go_end0
  exact ⟨rfl, rfl⟩
theorem typesAdd (tb : Nat) (w : World) (h : w.heap[tb]? = some (.cells #[.int .i64 0] 64 (0, 0))) : Calls Tryz.prog 14 #[.pointer (some ⟨tb, 0, none⟩), .string ⟨#[105, 110, 116, 101, 103, 101, 114]⟩] w fun e w' => e = .returned (.tuple #[]) ∧ w' = w.setCell ⟨tb, 0, none⟩ (.int .i64 16) := by
  have ha := typesAdd1 tb w h
  have HA := Lib.hid ha
  clear h ha
  go_enter Tryz.func14, Tryz.ntmps14
  go_wp2_with fail
  refine (typeFrom _).mono ?_
  rintro e w' ⟨rfl, rfl⟩
  go_wp2_with fail
  refine HA.out.mono ?_
  rintro e w' ⟨rfl, rfl⟩
  go_wp2
  go_end0
  exact ⟨rfl, rfl⟩

/-- a slice, and nothing old has turned -/
def SomeSlice (w : World) (e : Ending) (w' : World) : Prop := ∃ a n c, e = .returned (.slice a n c) ∧ Chg (fun _ => False) w w'
theorem info9 : (Tryz.prog.info? 9).map (fun i => (i.zero, i.size, i.bytes)) = some (some (.string ⟨#[]⟩), 1, 16) := by kernel_rfl
def tsCells : Array Value := #[.int .i64 2, .int .i64 4, .int .i64 8, .int .i64 16, .int .i64 32, .int .i64 64, .int .i64 128]
def TL (w : World) (B k : Nat) (s4 s10 : Value) (wr : World) : Prop :=
  ∃ (i : Nat) (a : Option Addr) (n c : Nat), s4 = .slice a n c ∧ s10 = .int .i64 i ∧ i ≤ 7 ∧ 7 - i ≤ k ∧ (i ≤ 3 → a = none ∧ n = 0 ∧ c = 0) ∧ wr.heap[B]? = some (.cells tsCells 88 (0, 0)) ∧ Chg (fun _ => False) w wr
set_option maxHeartbeats 4000000 in
set_option maxRecDepth 100000 in
theorem toStrings16 (w : World) : Calls Tryz.prog 57 #[.int .i64 16] w (SomeSlice w) := by
  obtain ⟨i0, hi, hz0, hz1, hz2⟩ := info_parts info9
  go_enter Tryz.func57, Tryz.ntmps57
  go_wp2
  obtain ⟨Bk, hB⟩ : ∃ q, q = w.heap.size := ⟨_, rfl⟩
  have hst : Hid (TL w Bk 7 (.slice none 0 0) (.int .i64 0) (w.alloc (.cells tsCells 88))) := Lib.hid ⟨0, none, 0, 0, rfl, rfl, by omega, by omega, fun _ => ⟨rfl, rfl, rfl⟩, by rw [hB]; exact heap_alloc_new _ _, (Chg.refl _ w).alloc _⟩
  rw [← hB]
  have HB := Lib.hid hB
  clear hB
  go_loopg [4, 6, 10] 7 (fun k s4 s6 s10 wr => TL w Bk k s4 s10 wr)
  case atStart => exact hst.out
  case round =>
    obtain ⟨i, a, n, c, rfl, rfl, h7, hk, h3, hb, hc⟩ := hrel
    have hi8 : i = 7 ∨ i = 3 ∨ i = 0 ∨ i = 1 ∨ i = 2 ∨ i = 4 ∨ i = 5 ∨ i = 6 := by omega
    have hcell : ∀ j v, tsCells[j]? = some v → wr.cell? ⟨Bk, j, none⟩ = some v := fun j v hv => by simp only [World.cell?, hb]; exact hv
    rcases hi8 with rfl | rfl | rfl | rfl | rfl | rfl | rfl | rfl
    · have HF : Hid (SomeSlice w (.returned (.slice a n c)) wr) := Lib.hid ⟨a, n, c, rfl, hc⟩
      clear hcell hb hc h3
      go_wp2
      go_ret
      exact HF.out
    · have c3 := hcell 3 _ rfl
      obtain ⟨rfl, rfl, rfl⟩ := h3 (by omega)
      have HH := Lib.hid (And.intro hb hc)
      clear hcell hb hc h3
      go_wp2_with fail
      refine (contains16_16 _).mono ?_
      rintro e w' ⟨rfl, rfl⟩
      go_wp2_with fail
      refine (typeStr16 _).mono ?_
      rintro e w' ⟨rfl, rfl⟩
      have hown : wr.ownsRow wr.heap.size 9 1 (.slice none 0 0) 0 [] := ⟨rfl, .inl ⟨rfl, rfl⟩⟩
      go_wp2_with (at_builtin; refine wpList_append_own _ rfl (.tmp 17) (.tmp 20) 28 rfl wr.heap.size 9 i0 (.string ⟨#[]⟩) 1 16 Tryz.underlying28 hi hz0 hz1 hz2 rfl (by decide) _ _ _ rfl (hown.alloc _) ⟨wr.heap.size, 0, none⟩ 1 1 [.string ⟨#[105, 110, 116, 101, 103, 101, 114]⟩] rfl rfl ?c1 ?c2 ?c3 ?c4 ?c5 ?_)
      case c1 => exact cell_one_new _ _ _
      case c2 => intro u hu; rw [List.mem_singleton] at hu; subst hu; rfl
      case c3 => decide
      case c4 => decide
      case c5 => rw [alloc_size]; omega
      intro v' w2 hown2 hgr _
      have hv' : ∃ a n c, v' = .slice a n c := by
        obtain ⟨_, ⟨h1, _⟩ | ⟨g, cap, cur, h1, _⟩⟩ := hown2
        · exact ⟨_, _, _, h1⟩
        · exact ⟨_, _, _, h1⟩
      obtain ⟨a2, n2, c2, rfl⟩ := hv'
      have HC : Hid (w2.heap[Bk]? = some (.cells tsCells 88 (0, 0)) ∧ Chg (fun _ => False) w w2) := by
        obtain ⟨hb, hc⟩ := HH.out
        have hbl := (Array.getElem?_eq_some_iff.1 hb).1
        have h2 : Chg (fun k => wr.heap.size ≤ k) (wr.alloc (.cells #[.string ⟨#[105, 110, 116, 101, 103, 101, 114]⟩] 9)) w2 := chg_of_grown hgr (fun k h => by simp [Value.ownBlock] at h)
        have h3 : Chg (fun _ => False) wr w2 := ((Chg.refl (fun _ => False) wr).alloc _).trans h2 (fun _ h => h) (fun k hk h => by have h1 : wr.heap.size ≤ k := h; omega)
        exact Lib.hid ⟨(h3.keep Bk hbl (fun h => h)).trans hb, hc.trans h3 (fun _ h => h) (fun _ _ h => h)⟩
      clear hown2 hgr hown
      go_wp2
      go_roundg 3
      case measure => omega
      case rel => exact ⟨4, a2, n2, c2, rfl, rfl, by omega, by omega, fun h => by omega, HC.out.1, HC.out.2⟩
    all_goals
      have c0 := hcell 0 _ rfl
      have c1 := hcell 1 _ rfl
      have c2 := hcell 2 _ rfl
      have c4 := hcell 4 _ rfl
      have c5 := hcell 5 _ rfl
      have c6 := hcell 6 _ rfl
      have HH := Lib.hid (And.intro hb (And.intro hc h3))
      clear hcell hb hc h3
      go_wp2_with fail
      refine (contains16_no _ _ (by decide)).mono ?_
      rintro e w' ⟨rfl, rfl⟩
      go_wp2
      go_roundg (gk - 1)
      case measure => omega
      case rel => first | exact ⟨1, a, n, c, rfl, rfl, by omega, by omega, fun h => HH.out.2.2 (by omega), HH.out.1, HH.out.2.1⟩ | exact ⟨2, a, n, c, rfl, rfl, by omega, by omega, fun h => HH.out.2.2 (by omega), HH.out.1, HH.out.2.1⟩ | exact ⟨3, a, n, c, rfl, rfl, by omega, by omega, fun h => HH.out.2.2 (by omega), HH.out.1, HH.out.2.1⟩ | exact ⟨5, a, n, c, rfl, rfl, by omega, by omega, fun h => HH.out.2.2 (by omega), HH.out.1, HH.out.2.1⟩ | exact ⟨6, a, n, c, rfl, rfl, by omega, by omega, fun h => HH.out.2.2 (by omega), HH.out.1, HH.out.2.1⟩ | exact ⟨7, a, n, c, rfl, rfl, by omega, by omega, fun h => HH.out.2.2 (by omega), HH.out.1, HH.out.2.1⟩
end Go.Proofs.YtbnmgopobmiadaaGreatDoor

/- (*validator).validate where the type 'integer' alone is asked. -/
namespace Go.Proofs.YtbnmgopobmiadaaGreatDoor
open Go.RowKit

set_option maxHeartbeats 16000000 in
set_option maxRecDepth 100000 in
theorem validate_typ (vb sb pb ub tb b c : Nat) (s : ByteArray) (neg : Bool) (P Q : Nat) (te : TypeId) (ve : Value) (w : World)
    (h : Vall w vb sb pb ub b c s (.pointer (some ⟨tb, 0, none⟩)) (.pointer none)) (ht : w.cell? ⟨tb, 0, none⟩ = some (.int .i64 16)) (hN : NumOf s neg P Q) (hE : Env te ve w) (hq : EofEq te ve) :
    Calls Tryz.prog 33 #[.pointer (some ⟨vb, 0, none⟩)] w (Vd33 (decide (Q / Nat.gcd P Q = 1)) ub vb w) := by
  have hin := isInteger_any s neg P Q te ve w hN hE hq
  have c0 := h.vd.c0
  have c2 := h.vd.c2
  have c3 := h.vd.c3
  have s9 := h.sc.get 9 (v := .pointer none) rfl
  have s17 := h.sc.get 17 (v := .pointer (some ⟨tb, 0, none⟩)) rfl
  have hck := fun w' h => checkCycle_top pb (.pointer (some ⟨sb, 0, none⟩)) w' h
  have hto := fun w' => typeOf_num s w'
  have h54 := fun w => as54 s w
  have h58 := fun w => as58 s w
  have h9 := fun w => as9 s w
  have h37 := fun w => as37 s w
  obtain ⟨ok, hok⟩ : ∃ ok, ok = decide (Q / Nat.gcd P Q = 1) := ⟨_, rfl⟩
  unfold IntIs at hin
  rw [← hok] at hin ⊢
  have HN := Lib.hid hin
  have HH := Lib.hid h
  have HT := Lib.hid hto
  have HK := Lib.hid (hck w h.sp)
  clear hin h hN hE hq hok hto hck
  unfold num at c0 HT HN
  go_enter Tryz.func33, Tryz.ntmps33
  go_wp2_with fail
  refine HK.out.mono ?_
  rintro e w' ⟨rfl, rfl⟩
  go_wp2_with fail
  refine (HT.out _).mono ?_
  rintro e w' ⟨rfl, rfl⟩
  go_wp2_with fail
  refine (isEmpty16 _).mono ?_
  rintro e w' ⟨rfl, rfl⟩
  go_wp2_with fail
  refine (contains16_no 8 _ (by decide)).mono ?_
  rintro e w' ⟨rfl, rfl⟩
  go_wp2_with fail
  refine (contains16_16 _).mono ?_
  rintro e w' ⟨rfl, rfl⟩
  go_wp2_with fail
  refine HN.out.mono ?_
  rintro e w2 ⟨rfl, hc⟩
  have hv2 := HH.out.vd.keep hc (fun h => h)
  have hs2 := HH.out.sc.keep hc (fun h => h)
  have e2 := hv2.c2
  have e4 := hv2.c4
  have e5 := hv2.c5
  have t17 := hs2.get 17 (v := .pointer (some ⟨tb, 0, none⟩)) rfl
  have t19 := hs2.get 19 (v := .pointer none) rfl
  have t18 := hs2.get 18 (v := .pointer none) rfl
  have t27 := hs2.get 27 (v := .pointer none) rfl
  have t11 := hs2.get 11 (v := .pointer none) rfl
  have t7 := hs2.get 7 (v := .int .i64 2020) rfl
  have ht2 := hc.cell ht (fun h => h)
  have hnv := numValidate_none vb sb s _ _ _ _ _ w2 hv2 hs2
  cases ok
  · have HE := Lib.hid (fun (kt : TypeId) (kv : Value) W (hW : Chg (fun _ => False) w2 W) => error_any vb b c sb kt _ _ _ _ _ _ kv W (hv2.keep hW (fun h => h)) (hs2.keep hW (fun h => h)))
    have HC := Lib.hid hc
    clear hnv hv2 hs2 hc HN HK HT c0 c2 c3 s9 s17
    go_upto_region 16 with (fail)
    go_region_held3 (fun w' => w'.cell? ⟨sb, 17, none⟩ = some (.pointer (some ⟨tb, 0, none⟩)) ∧ w'.cell? ⟨tb, 0, none⟩ = some (.int .i64 16)) (go_keep)
      (first
        | (go_at_call 56; refine (typeStr8 _).mono ?_; rintro e w' ⟨rfl, rfl⟩)
        | (go_at_call 57; refine (toStrings16 _).mono ?_; rintro e w5 ⟨a5, n5, c5, rfl, hc5⟩; have x1 := hc5.cell (a := ⟨sb, 17, none⟩) (v := .pointer (some ⟨tb, 0, none⟩)) (by exact t17) (fun h => h); have x2 := hc5.cell (a := ⟨tb, 0, none⟩) (v := .int .i64 16) (by exact ht2) (fun h => h))
        | (go_at_call 49; refine (HE.out 160 _ _ (hc5.undrewN.alloc _)).mono ?_; rintro e w6 ⟨N, vl6, rfl, hN, hNb, hc6⟩; have y1 := hc6.cell (a := ⟨sb, 17, none⟩) (v := .pointer (some ⟨tb, 0, none⟩)) (((Chg.refl (fun _ => False) w5).alloc _).cell x1 (fun h => h)) (fun h => h); have y2 := hc6.cell (a := ⟨tb, 0, none⟩) (v := .int .i64 16) (((Chg.refl (fun _ => False) w5).alloc _).cell x2 (fun h => h)) (fun h => h)))
    all_goals
      have HF : Hid (Vd33 false ub vb w (.returned (.tuple #[.pointer none, .iface 107 (.pointer (some ⟨N, 0, none⟩))])) w6) := Lib.hid (.inr ⟨rfl, N, vl6, 160, _, rfl, hNb, by decide, ((HC.out.trans (hc5.undrewN.alloc _) (U := fun _ => False) (fun _ h => h) (fun _ _ h => h)).trans hc6 (U := fun k => k = vb) (fun _ h => h.elim) (fun _ _ h => h.elim))⟩)
      clear hN hNb hc6 hc5 y1 y2 x1 x2
      go_wp2
      go_ret2
      exact HF.out
  · have HNV := Lib.hid hnv
    have HC := Lib.hid (And.intro hc (And.intro hv2 hs2))
    clear hnv hv2 hs2 hc HN HK HT c0 c2 c3 s9 s17
    unfold num at HNV
    go_wp2_with fail
    refine HNV.out.mono ?_
    rintro e w3 ⟨rfl, hc3⟩
    have hv3 := HC.out.2.1.keep hc3 (fun h => h)
    have hs3 := HC.out.2.2.keep hc3 (fun h => h)
    have d5 := hv3.c5
    have d2 := hv3.c2
    have d4 := hv3.c4
    have u7 := hs3.get 7 (v := .int .i64 2020) rfl
    have hr := validateRefs_none vb sb _ _ _ _ _ _ _ w3 hv3 hs3
    have hcd := condValidate_none vb sb _ _ _ _ _ _ _ w3 hv3 hs3
    have hu := unevalValidate_none vb sb s _ _ _ _ w3 hv3
    have HF : Hid (Vd33 true ub vb w (.returned (.tuple #[.pointer (some ⟨ub, 0, none⟩), .nilIface])) w3) := Lib.hid (.inl ⟨rfl, rfl, (HC.out.1.trans hc3 (U := fun k => k = vb) (fun _ h => h.elim) (fun _ _ h => h.elim))⟩)
    have HR := Lib.hid hr
    have HC2 := Lib.hid hcd
    have HU := Lib.hid hu
    clear hv3 hs3 hc3 hr hcd hu HNV HC
    go_wp2_with fail
    refine HR.out.mono ?_
    rintro e w' ⟨rfl, rfl⟩
    go_wp2_with fail
    refine HC2.out.mono ?_
    rintro e w' ⟨rfl, rfl⟩
    go_wp2_with fail
    refine HU.out.mono ?_
    rintro e w' ⟨rfl, rfl⟩
    go_wp2
    go_ret2
    exact HF.out
end Go.Proofs.YtbnmgopobmiadaaGreatDoor
