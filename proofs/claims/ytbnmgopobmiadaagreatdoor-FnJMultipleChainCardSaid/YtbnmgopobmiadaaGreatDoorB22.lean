/- big.Int: contracts of Add, Cmp, NewInt, intOne, natOne, natFive. -/
import Derived.Test.YtbnmgopobmiadaaGreatDoorB21
import Derived.Lib.SliceRun
import Derived.RegionTactic
import Derived.Deep.RegionWith

set_option linter.unusedSimpArgs false
set_option linter.unusedVariables false

namespace Go.Proofs.YtbnmgopobmiadaaGreatDoor
open Go.RowKit

set_option maxHeartbeats 8000000 in
set_option maxRecDepth 100000 in
theorem intAdd_same (bx b_y : Nat) (s : Bool) (vx vy : Value) (X Y : Nat) (w : World) (hx : Im w bx s vx X) (hy : Im w b_y s vy Y) (hX : wlen X ≤ 10000) (hY : wlen Y ≤ 10000) (hY0 : Y ≠ 0)
    (hd : b_y ≠ bx ∧ vx.ownBlock ≠ some b_y ∧ Off (fun k => vx.ownBlock = some k) vy) :
    Calls Tryz.prog 131 #[.pointer (some ⟨bx, 0, none⟩), .pointer (some ⟨bx, 0, none⟩), .pointer (some ⟨b_y, 0, none⟩)] w (ImGives bx vx s (X + Y) (.pointer (some ⟨bx, 0, none⟩)) w) := by
  have c0 := hx.blk.c0
  have c1 := hx.blk.c1
  have d0 := hy.blk.c0
  have d1 := hy.blk.c1
  have hadd : ∀ k, Calls Tryz.prog 148 #[vx, vx, vy] (w.drewN k) (Gives vx (X + Y) (w.drewN k)) := fun k =>
    add_any vx vx vy X Y (w.drewN k) hx.nv.st hx.nv hy.nv (by omega) (by omega) (.inl rfl) (.inr hd.2.2) (fun h => absurd h hY0) (fun _ => hd.2.2)
  have hpos : (0 : Int) < (wlen (X + Y) : Nat) := by have := mt (wlen_eq_zero (X := X + Y)).1 (by omega); omega
  have e0 : (s == s) = true := by cases s <;> rfl
  have HM := Lib.hid hadd
  have HZ := Lib.hid (And.intro hx (And.intro hy (And.intro hd hX)))
  clear hx hy hd hX hadd hY hY0
  go_enter Tryz.func131, Tryz.ntmps131
  go_wp2
  go_quiet (fail)
  go_wp2
  go_region_with (go_at_call 148; refine (HM.out _).mono ?_; rintro e w2 ⟨v, rfl, hv, hc, ho⟩; obtain ⟨a, c, rfl⟩ := hv.shape; have hp := HZ.out.1.blk.keep hc.undrewN (fun hk => HZ.out.1.own hk); have d2 := hp.c1; have d3 := hp.frozen 1)
  all_goals
    have hp' := (Pair.set1 hp (.slice a (wlen (X + Y)) c))
    have f0 := hp'.c0
    have f1 := hp'.frozen 0
    have f2 := hp'.c1
    have HR := Lib.hid (im_gives (s' := s) HZ.out.1 hv hc.undrewN ho (.pointer (some ⟨bx, 0, none⟩)) (.returned (.pointer (some ⟨bx, 0, none⟩))) rfl)
    clear hv hc ho hp d2 d3 hp'
    generalize wlen (X + Y) = m at *
    go_wp2
    go_ret
    exact HR.out

theorem quiet_drawn {P : Program} {f : FuncId} {args : Array Value} {w : World} {q n : Nat} {v : Value}
    (h : Calls P f args (w.drewN (q + n)) (Drawn v (w.drewN (q + n)))) : Calls P f args (w.drewN (q + n)) fun e w'' => e = .returned v ∧ ∃ m, w'' = w.drewN (q + m) :=
  h.mono fun _ _ ⟨he, m, hm⟩ => ⟨he, n + m, by rw [hm, World.drewN_drewN, Nat.add_assoc]⟩

set_option maxHeartbeats 8000000 in
set_option maxRecDepth 100000 in
theorem intAdd_sub (bx b_y : Nat) (s : Bool) (vx vy : Value) (X Y : Nat) (w : World) (hx : Im w bx s vx X) (hy : Im w b_y (!s) vy Y) (hX : wlen X ≤ 10000) (hY : wlen Y ≤ 10000) (hY0 : Y ≠ 0) (hle : Y ≤ X)
    (hd : b_y ≠ bx ∧ vx.ownBlock ≠ some b_y ∧ Off (fun k => vx.ownBlock = some k) vy) :
    Calls Tryz.prog 131 #[.pointer (some ⟨bx, 0, none⟩), .pointer (some ⟨bx, 0, none⟩), .pointer (some ⟨b_y, 0, none⟩)] w (ImGives bx vx (decide (0 < (wlen (X - Y) : Int)) && s) (X - Y) (.pointer (some ⟨bx, 0, none⟩)) w) := by
  have c0 := hx.blk.c0
  have c1 := hx.blk.c1
  have d0 := hy.blk.c0
  have d1 := hy.blk.c1
  have hadd : ∀ k, Calls Tryz.prog 142 #[vx, vx, vy] (w.drewN k) (Gives vx (X - Y) (w.drewN k)) := fun k =>
    sub_any vx vx vy X Y (w.drewN k) hx.nv.st hx.nv hy.nv (by omega) hle (.inl rfl) (.inr hd.2.2) (fun h => absurd h hY0)
  have hcmp : ∀ k, Calls Tryz.prog 126 #[vx, vy] (w.drewN k) (Drawn (.int .i64 (cmpN X Y)) (w.drewN k)) := fun k => cmp_any vx vy X Y (w.drewN k) hx.nv hy.nv (by omega) (by omega)
  have hge : (0 : Int) ≤ cmpN X Y := by unfold cmpN; rw [if_neg (by omega)]; split <;> omega
  have e0 : (s == !s) = false := by cases s <;> rfl
  have HM := Lib.hid hadd
  have HZ := Lib.hid (And.intro hx (And.intro hy (And.intro hd hX)))
  clear hx hy hd hX hadd hY hY0
  obtain ⟨sf, hsf⟩ : ∃ sf, sf = (decide (0 < (wlen (X - Y) : Int)) && s) := ⟨_, rfl⟩
  rw [← hsf]
  have HS := Lib.hid hsf
  clear hsf
  go_enter Tryz.func131, Tryz.ntmps131
  go_wp2
  go_quiet (fail)
  go_wp2
  go_quiet ((go_at_call 126; refine quiet_drawn (hcmp _)))
  go_wp2
  go_region_with (go_at_call 142; refine (HM.out _).mono ?_; rintro e w2 ⟨v, rfl, hv, hc, ho⟩; obtain ⟨a, c, rfl⟩ := hv.shape; have hp := HZ.out.1.blk.keep hc.undrewN (fun hk => HZ.out.1.own hk); have d2 := hp.c1; have d3 := hp.frozen 1)
  all_goals
    have hp' := (Pair.set1 hp (.slice a (wlen (X - Y)) c))
    have f0 := hp'.c0
    have f1 := hp'.frozen 0
    have f2 := hp'.c1
    by_cases hm : (0 : Int) < (wlen (X - Y) : Nat)
    · have HR := Lib.hid (im_gives (s' := s) HZ.out.1 hv hc.undrewN ho (.pointer (some ⟨bx, 0, none⟩)) (.returned (.pointer (some ⟨bx, 0, none⟩))) rfl)
      have HT := Lib.hid (show sf = s by rw [HS.out, decide_eq_true hm, Bool.true_and])
      clear hv hc ho hp d2 d3 hp' hcmp hge
      generalize wlen (X - Y) = m at *
      go_wp2
      go_ret
      rw [HT.out]
      exact HR.out
    · have HR := Lib.hid (im_gives (s' := false) HZ.out.1 hv hc.undrewN ho (.pointer (some ⟨bx, 0, none⟩)) (.returned (.pointer (some ⟨bx, 0, none⟩))) rfl)
      have HT := Lib.hid (show sf = false by rw [HS.out, decide_eq_false hm, Bool.false_and])
      clear hv hc ho hp d2 d3 hp' hcmp hge
      generalize wlen (X - Y) = m at *
      go_wp2
      go_ret
      rw [HT.out]
      exact HR.out

set_option maxHeartbeats 8000000 in
set_option maxRecDepth 100000 in
theorem intAdd_rsub (bx b_y : Nat) (s : Bool) (vx vy : Value) (X Y : Nat) (w : World) (hx : Im w bx s vx X) (hy : Im w b_y (!s) vy Y) (hX : wlen X ≤ 10000) (hY : wlen Y ≤ 10000) (hY0 : Y ≠ 0) (hle : X < Y)
    (hd : b_y ≠ bx ∧ vx.ownBlock ≠ some b_y ∧ Off (fun k => vx.ownBlock = some k) vy) :
    Calls Tryz.prog 131 #[.pointer (some ⟨bx, 0, none⟩), .pointer (some ⟨bx, 0, none⟩), .pointer (some ⟨b_y, 0, none⟩)] w (ImGives bx vx (!s) (Y - X) (.pointer (some ⟨bx, 0, none⟩)) w) := by
  have c0 := hx.blk.c0
  have c1 := hx.blk.c1
  have d0 := hy.blk.c0
  have d1 := hy.blk.c1
  have hadd : ∀ k, Calls Tryz.prog 142 #[vx, vy, vx] (w.drewN k) (Gives vx (Y - X) (w.drewN k)) := fun k =>
    sub_any vx vy vx Y X (w.drewN k) hx.nv.st hy.nv hx.nv (by omega) (by omega) (.inr hd.2.2) (.inl rfl) (fun _ => hd.2.2)
  have hpos : (0 : Int) < (wlen (Y - X) : Nat) := by have := mt (wlen_eq_zero (X := Y - X)).1 (by omega); omega
  have hcmp : ∀ k, Calls Tryz.prog 126 #[vx, vy] (w.drewN k) (Drawn (.int .i64 (cmpN X Y)) (w.drewN k)) := fun k => cmp_any vx vy X Y (w.drewN k) hx.nv hy.nv (by omega) (by omega)
  have hge : ¬ (0 : Int) ≤ cmpN X Y := by unfold cmpN; rw [if_pos hle]; omega
  have e0 : (s == !s) = false := by cases s <;> rfl
  have HM := Lib.hid hadd
  have HZ := Lib.hid (And.intro hx (And.intro hy (And.intro hd hX)))
  clear hx hy hd hX hadd hY hY0
  go_enter Tryz.func131, Tryz.ntmps131
  go_wp2
  go_quiet (fail)
  go_wp2
  go_quiet ((go_at_call 126; refine quiet_drawn (hcmp _)))
  go_wp2
  go_region_with (go_at_call 142; refine (HM.out _).mono ?_; rintro e w2 ⟨v, rfl, hv, hc, ho⟩; obtain ⟨a, c, rfl⟩ := hv.shape; have hp := HZ.out.1.blk.keep hc.undrewN (fun hk => HZ.out.1.own hk); have d2 := hp.c1; have d3 := hp.frozen 1)
  all_goals
    have hp' := (Pair.set1 hp (.slice a (wlen (Y - X)) c))
    have f0 := hp'.c0
    have f1 := hp'.frozen 0
    have f2 := hp'.c1
    have HR := Lib.hid (im_gives (s' := !s) HZ.out.1 hv hc.undrewN ho (.pointer (some ⟨bx, 0, none⟩)) (.returned (.pointer (some ⟨bx, 0, none⟩))) rfl)
    clear hv hc ho hp d2 d3 hp' hcmp hge
    generalize wlen (Y - X) = m at *
    go_wp2
    go_ret
    exact HR.out

/-- the number of a sign and a magnitude -/
def sv (s : Bool) (X : Nat) : Int := if s then -(X : Int) else X
theorem intAdd (bx b_y : Nat) (sx sy : Bool) (vx vy : Value) (X Y : Nat) (w : World) (hx : Im w bx sx vx X) (hy : Im w b_y sy vy Y) (hX : wlen X ≤ 10000) (hY : wlen Y ≤ 10000) (hY0 : Y ≠ 0)
    (hd : b_y ≠ bx ∧ vx.ownBlock ≠ some b_y ∧ Off (fun k => vx.ownBlock = some k) vy) :
    Calls Tryz.prog 131 #[.pointer (some ⟨bx, 0, none⟩), .pointer (some ⟨bx, 0, none⟩), .pointer (some ⟨b_y, 0, none⟩)] w
      (fun e w' => ∃ s' Z', sv s' Z' = sv sx X + sv sy Y ∧ (s' = true → Z' ≠ 0) ∧ ImGives bx vx s' Z' (.pointer (some ⟨bx, 0, none⟩)) w e w') := by
  by_cases hs : sy = sx
  · subst hs
    exact (intAdd_same bx b_y sy vx vy X Y w hx hy hX hY hY0 hd).mono fun e w' h => ⟨sy, X + Y, by unfold sv; split <;> omega, fun _ => by omega, h⟩
  · have hs : sy = !sx := by cases sx <;> cases sy <;> simp_all
    subst hs
    by_cases hle : Y ≤ X
    · refine (intAdd_sub bx b_y sx vx vy X Y w hx hy hX hY hY0 hle hd).mono fun e w' h => ⟨_, X - Y, ?_, ?_, h⟩
      · by_cases hz : X - Y = 0
        · rw [hz, wlen_zero]; cases sx <;> simp [sv] <;> omega
        · have := mt (wlen_eq_zero (X := X - Y)).1 hz
          rw [decide_eq_true (by omega), Bool.true_and]; cases sx <;> simp [sv] <;> omega
      · intro hh hz
        rw [hz, wlen_zero] at hh; simp at hh
    · refine (intAdd_rsub bx b_y sx vx vy X Y w hx hy hX hY hY0 (by omega) hd).mono fun e w' h => ⟨_, Y - X, ?_, fun _ => by omega, h⟩
      cases sx <;> simp [sv] <;> omega
end Go.Proofs.YtbnmgopobmiadaaGreatDoor
