/- The spec's jLean. -/
import Derived.Test.YtbnmgopobmiadaaGreatDoorB60
import Derived.Test.YtbnmgopobmiadaaGreatDoorB43
import Derived.Deep.LoopGhost
import Derived.Deep.RegionWith

set_option linter.unusedSimpArgs false
set_option linter.unusedVariables false

namespace Go.Proofs.YtbnmgopobmiadaaGreatDoor
open Go.RowKit

/-- a jDecimal as a value -/
def dec3 (m : Bool) (u : ByteArray) (x : Int) : Value := .agg #[.bool m, .string u, .int .i64 x]
/-- a block that holds a jDecimal -/
def Dm (w : World) (b : Nat) (m : Bool) (u : ByteArray) (x : Int) : Prop := w.heap[b]? = some (.cells #[.bool m, .string u, .int .i64 x] 31 (0, 0))
/-- what jLean hands back -/
def Leaned (s : ByteArray) (w : World) (e : Ending) (w' : World) : Prop :=
  ∃ m u x, e = .returned (dec3 m u x) ∧ u.size ≤ s.size ∧ (u.size = 0 ↔ Zer s) ∧ (u.size = 0 → m = false) ∧ -4000 ≤ x ∧ x ≤ 5000 ∧ Chg (fun _ => False) w w'

theorem Dm.c0 {w : World} {b : Nat} {m : Bool} {u : ByteArray} {x : Int} (h : Dm w b m u x) : w.cell? ⟨b, 0, none⟩ = some (.bool m) := by unfold Dm at h; simp [World.cell?, h]
theorem Dm.c1 {w : World} {b : Nat} {m : Bool} {u : ByteArray} {x : Int} (h : Dm w b m u x) : w.cell? ⟨b, 1, none⟩ = some (.string u) := by unfold Dm at h; simp [World.cell?, h]
theorem Dm.c2 {w : World} {b : Nat} {m : Bool} {u : ByteArray} {x : Int} (h : Dm w b m u x) : w.cell? ⟨b, 2, none⟩ = some (.int .i64 x) := by unfold Dm at h; simp [World.cell?, h]
theorem Dm.frozen {w : World} {b : Nat} {m : Bool} {u : ByteArray} {x : Int} (h : Dm w b m u x) (j : Nat) : w.frozen? ⟨b, j, none⟩ = false := by unfold Dm at h; simp [World.frozen?, h]
theorem Dm.set0 {w : World} {b : Nat} {m : Bool} {u : ByteArray} {x : Int} (h : Dm w b m u x) (n : Bool) : Dm (w.setCell ⟨b, 0, none⟩ (.bool n)) b n u x := (setCell_block _ _ _ _ h).trans (by simp)
theorem Dm.set1 {w : World} {b : Nat} {m : Bool} {u : ByteArray} {x : Int} (h : Dm w b m u x) (v : ByteArray) : Dm (w.setCell ⟨b, 1, none⟩ (.string v)) b m v x := (setCell_block _ _ _ _ h).trans (by simp)
theorem Dm.set2 {w : World} {b : Nat} {m : Bool} {u : ByteArray} {x : Int} (h : Dm w b m u x) (y : Int) : Dm (w.setCell ⟨b, 2, none⟩ (.int .i64 y)) b m u y := (setCell_block _ _ _ _ h).trans (by simp)
theorem Dm.keep {S : Nat → Prop} {w w' : World} {b : Nat} {m : Bool} {u : ByteArray} {x : Int} (h : Dm w b m u x) (hc : Chg S w w') (hs : ¬ S b) : Dm w' b m u x :=
  (hc.keep b (Array.getElem?_eq_some_iff.1 h).1 hs).trans h

/-- jLean's loop -/
def JL (w : World) (B : Nat) (m : Bool) (u0 : ByteArray) (x0 : Int) (k : Nat) (wr : World) : Prop :=
  ∃ (v : ByteArray) (x : Int), Dm wr B m v x ∧ Dm wr (B + 1) false ⟨#[]⟩ 0 ∧ v.size ≤ u0.size ∧ x + v.size = x0 + u0.size ∧ (v.size = 0 ↔ u0.size = 0) ∧ (0 < v.size → byt v 0 ≠ 48) ∧ v.size ≤ k ∧ Chg (fun _ => False) w wr

set_option maxHeartbeats 1000000 in
set_option maxRecDepth 100000 in
theorem jLean_any (m : Bool) (s : ByteArray) (x : Int) (w : World) (hs : s.size ≤ 1000) (hx : -4000 ≤ x) (hx2 : x ≤ 4000) : Calls Tryz.prog 18 #[.agg #[.bool m, .string s, .int .i64 x]] w (Leaned s w) := by
  go_enter Tryz.func18, Tryz.ntmps18
  go_wp2_with fail
  refine (jBare_any s _ hs).mono ?_
  rintro e w' ⟨u, rfl, hu, hz, hf, rfl⟩
  obtain ⟨B, hB⟩ : ∃ B, B = w.heap.size := ⟨_, rfl⟩
  have HH := Lib.hid (And.intro hz (And.intro hf (And.intro hu (And.intro hs (And.intro hx (And.intro hx2 hB))))))
  clear hz hf hu hs hx hx2
  go_wp2
  have hst : Hid (JL w B m u x u.size ((w.alloc (.cells #[.bool m, .string u, .int .i64 x] 31)).alloc (.cells #[.bool false, .string ⟨#[]⟩, .int .i64 0] 31))) := by
    obtain ⟨hz, hf, hu, hs, hx, hx2, _⟩ := HH.out
    have hb1 := heap_alloc_new w (.cells #[.bool m, .string u, .int .i64 x] 31)
    have hb2 := heap_alloc_new (w.alloc (.cells #[.bool m, .string u, .int .i64 x] 31)) (.cells #[.bool false, .string ⟨#[]⟩, .int .i64 0] 31)
    rw [alloc_size, ← hB] at hb2
    have d1 : Dm (w.alloc (.cells #[.bool m, .string u, .int .i64 x] 31)) B m u x := by rw [hB]; exact hb1
    exact Lib.hid ⟨u, x, d1.keep ((Chg.refl (fun _ => False) _).alloc _) (fun h => h), hb2, Nat.le_refl _, rfl, Iff.rfl, hf, Nat.le_refl _, ((Chg.refl (fun _ => False) w).alloc _).alloc _⟩
  rw [← hB]
  clear hB
  go_loopg [] (u.size) (fun k wr => JL w B m u x k wr)
  case atStart => exact hst.out
  case round =>
    obtain ⟨v, y, h1, h2, h3, h4, h5, h6, h7, h8⟩ := hrel
    have c1 := h1.c1
    have c2 := h1.c2
    have c0 := h1.c0
    have f1 := h1.frozen 1
    have hlim : y ≤ 5000 ∧ -4000 ≤ y := by
      obtain ⟨_, _, a1, a2, a3, a4, _⟩ := HH.out
      omega
    obtain ⟨l1, l2⟩ := hlim
    have g0 := h2.c0
    have g1 := h2.c1
    have g2 := h2.c2
    have gf0 := h2.frozen 0
    have gf1 := h2.frozen 1
    have gf2 := h2.frozen 2
    by_cases h0 : v.size = 0
    · have he := isEmpty_zero h0
      have HJ := Lib.hid (And.intro h1 (And.intro h2 (And.intro h3 (And.intro h4 (And.intro h5 (And.intro h6 (And.intro h7 h8)))))))
      have H00 := Lib.hid h0
      clear h1 h2 h3 h4 h5 h6 h8 h7 h0
      go_wp2
      have q0 := (HJ.out.2.1.set0 false).c0
      have q1 := ((HJ.out.2.1.set0 false).set1 ⟨#[]⟩).c1
      have q2 := (((HJ.out.2.1.set0 false).set1 ⟨#[]⟩).set2 0).c2
      refine bodyPost_ret (v := dec3 false ⟨#[]⟩ 0) (by simp [dec3, results, Tryz.results18, go_sem, q0, q1, q2]) rfl ?_
      · have h00 := H00.out
        have hcs : Chg (fun _ => False) w (((wr.setCell ⟨B + 1, 0, none⟩ (.bool false)).setCell ⟨B + 1, 1, none⟩ (.string ⟨#[]⟩)).setCell ⟨B + 1, 2, none⟩ (.int .i64 0)) := by
          have hB := HH.out.2.2.2.2.2.2
          have h8 := HJ.out.2.2.2.2.2.2.2
          exact ((h8.setCell (a := ⟨B + 1, 0, none⟩) (fun h => by have h9 : B + 1 < w.heap.size := h; omega) _).setCell (a := ⟨B + 1, 1, none⟩) (fun h => by have h9 : B + 1 < w.heap.size := h; omega) _).setCell (a := ⟨B + 1, 2, none⟩) (fun h => by have h9 : B + 1 < w.heap.size := h; omega) _
        obtain ⟨z1, z2, z3, _⟩ := HH.out
        obtain ⟨_, _, h3, h4, h5, h6, _⟩ := HJ.out
        exact ⟨false, ⟨#[]⟩, 0, rfl, Nat.zero_le _, ⟨fun _ => z1.1 (h5.1 h00), fun _ => rfl⟩, fun _ => rfl, by omega, by omega, hcs⟩
    · have hp : 0 < v.size := by omega
      have hv1000 : v.size ≤ 1000 := by
        obtain ⟨_, _, a1, a2, a3, a4, _⟩ := HH.out
        omega
      have he := isEmpty_pos hp
      have hw : wrap64 ((v.size : Int) - 1) = ((v.size - 1 : Nat) : Int) := by unfold wrap64; omega
      have hin : v.size - 1 < v.size := by omega
      have hn1 := h1.set1 (v.extract 0 (v.size - 1))
      have d1 := hn1.c2
      have d2 := hn1.frozen 2
      obtain ⟨c, hc⟩ : ∃ c, c = (v[v.size - 1]'hin).toNat := ⟨_, rfl⟩
      by_cases hd : c = 48
      · have k1 : (((v[v.size - 1]'hin).toNat : Int) == 48) = true := by rw [← hc, hd]; rfl
        have HJ := Lib.hid (And.intro h1 (And.intro h2 (And.intro h3 (And.intro h4 (And.intro h5 (And.intro h6 (And.intro h7 h8)))))))
        clear h1 h2 h3 h4 h5 h6 h8 hc hd hn1
        go_wp2
        go_roundg (v.size - 1)
        case measure => omega
        case rel =>
          obtain ⟨h1, h2, h3, h4, h5, h6, h7, h8⟩ := HJ.out
          clear hw
          have hsz : (v.extract 0 (v.size - 1)).size = v.size - 1 := by rw [ByteArray.size_extract, Nat.min_eq_left (by omega), Nat.sub_zero]
          have h2le : 2 ≤ v.size := by
            refine Nat.lt_of_not_le fun hle => ?_
            have h9 := h6 hp
            have h10 : v.size - 1 = 0 := by omega
            have h11 := k1
            rw [beq_iff_eq] at h11
            have h12 : (v[v.size - 1]'hin).toNat = byt v (v.size - 1) := byt_in hin
            rw [h12, h10] at h11
            omega
          refine ⟨v.extract 0 (v.size - 1), y + 1, (h1.set1 _).set2 _, (h2.keep (((Chg.refl (fun k => k = B) wr).setCell (a := ⟨B, 1, none⟩) (fun _ => rfl) _).setCell (a := ⟨B, 2, none⟩) (fun _ => rfl) _) (fun h => by omega)), by omega, by omega, by omega, fun _ => ?_, by omega, ?_⟩
          · rw [byt_extract _ _ _ _ (by omega) (by omega)]; exact h6 hp
          · have hB := HH.out.2.2.2.2.2.2
            exact (h8.setCell (a := ⟨B, 1, none⟩) (fun h => by have h9 : B < w.heap.size := h; omega) _).setCell (a := ⟨B, 2, none⟩) (fun h => by have h9 : B < w.heap.size := h; omega) _
      · have k1 : (((v[v.size - 1]'hin).toNat : Int) == 48) = false := by rw [← hc]; exact beq_eq_false_iff_ne.2 (by omega)
        have HJ := Lib.hid (And.intro h1 (And.intro h2 (And.intro h3 (And.intro h4 (And.intro h5 (And.intro h6 (And.intro h7 h8)))))))
        clear h1 h2 h3 h4 h5 h6 h8 hc hd hn1 d1 d2 h7
        go_wp2
        have q0 := (HJ.out.2.1.set0 m).c0
        have q1 := ((HJ.out.2.1.set0 m).set1 v).c1
        have q2 := (((HJ.out.2.1.set0 m).set1 v).set2 y).c2
        refine bodyPost_ret (v := dec3 m v y) (by simp [dec3, results, Tryz.results18, go_sem, q0, q1, q2]) rfl ?_
        · clear hw
          have hcs : Chg (fun _ => False) w (((wr.setCell ⟨B + 1, 0, none⟩ (.bool m)).setCell ⟨B + 1, 1, none⟩ (.string v)).setCell ⟨B + 1, 2, none⟩ (.int .i64 y)) := by
            have hB := HH.out.2.2.2.2.2.2
            have h8 := HJ.out.2.2.2.2.2.2.2
            exact ((h8.setCell (a := ⟨B + 1, 0, none⟩) (fun h => by have h9 : B + 1 < w.heap.size := h; omega) _).setCell (a := ⟨B + 1, 1, none⟩) (fun h => by have h9 : B + 1 < w.heap.size := h; omega) _).setCell (a := ⟨B + 1, 2, none⟩) (fun h => by have h9 : B + 1 < w.heap.size := h; omega) _
          obtain ⟨z1, z2, z3, _⟩ := HH.out
          obtain ⟨_, _, h3, h4, h5, h6, _⟩ := HJ.out
          exact ⟨m, v, y, rfl, by omega, ⟨fun h => absurd h h0, fun h => absurd (h5.2 (z1.2 h)) h0⟩, fun h => absurd h h0, by omega, by omega, hcs⟩
end Go.Proofs.YtbnmgopobmiadaaGreatDoor

/- The spec's jAlike, jCompare, JSign's comparison. -/
namespace Go.Proofs.YtbnmgopobmiadaaGreatDoor
open Go.RowKit

set_option maxHeartbeats 1000000 in
set_option maxRecDepth 100000 in
theorem jAlike_zero (m : Bool) (u : ByteArray) (x : Int) (w : World) (hu : u.size ≤ 1000) (hx : -5000 ≤ x) (hx2 : x ≤ 5000) :
    Calls Tryz.prog 19 #[.agg #[.bool m, .string u, .int .i64 x], .agg #[.bool false, .string ⟨#[]⟩, .int .i64 0]] w fun e w' => e = .returned (.tuple #[.string (zres u x), .string ⟨#[]⟩]) ∧ Chg (fun _ => False) w w' := by
  have hz1 := fun n => jZeros_any u x (((w.alloc (.cells #[.bool m, .string u, .int .i64 x] 31)).alloc (.cells #[.bool false, .string ⟨#[]⟩, .int .i64 0] 31)).drewN n) hu (by omega) (by omega)
  have hz2 := fun n => jZeros_any ⟨#[]⟩ (-x) (((w.alloc (.cells #[.bool m, .string u, .int .i64 x] 31)).alloc (.cells #[.bool false, .string ⟨#[]⟩, .int .i64 0] 31)).drewN n) (by decide) (by omega) (by omega)
  rw [zres_nil] at hz2
  have w2 : IntKind.i64.wrap x = x := by rw [IntKind.wrap_i64]; omega
  have w4 : IntKind.i64.wrap (-x) = -x := by rw [IntKind.wrap_i64]; omega
  have H1 := Lib.hid hz1
  have H2 := Lib.hid hz2
  clear hz1 hz2
  go_enter Tryz.func19, Tryz.ntmps19
  go_wp2
  go_quiet (first | (go_at_call_of 30 (Value.string u); exact quiet_same (H1.out _)) | (go_at_call_of 30 (Value.int IntKind.i64 (-x)); exact quiet_same (H2.out _)))
  go_wp2
  go_ret2
  exact ⟨rfl, (((Chg.refl (fun _ => False) w).alloc _).alloc _).drewN _⟩

theorem nil_of_size : ∀ {u : ByteArray}, u.size = 0 → u = ⟨#[]⟩
  | ⟨d⟩, h => by
    have h4 : d.size = 0 := h
    rw [Array.size_eq_zero_iff.1 h4]
/-- the sign of what jLean hands back: 0 for no digits alone -/
def Signed (u : ByteArray) (w : World) (e : Ending) (w' : World) : Prop := ∃ c : Int, e = .returned (.int .i64 c) ∧ (c = 0 ↔ u.size = 0) ∧ Chg (fun _ => False) w w'
set_option maxHeartbeats 1000000 in
set_option maxRecDepth 100000 in
theorem jCompare_zero (m : Bool) (u : ByteArray) (x : Int) (w : World) (hu : u.size ≤ 1000) (hx : -5000 ≤ x) (hx2 : x ≤ 5000) (hm : u.size = 0 → m = false) :
    Calls Tryz.prog 10 #[.agg #[.bool m, .string u, .int .i64 x], .agg #[.bool false, .string ⟨#[]⟩, .int .i64 0]] w (Signed u w) := by
  have ha := jAlike_zero m u x ((w.alloc (.cells #[.bool m, .string u, .int .i64 x] 31)).alloc (.cells #[.bool false, .string ⟨#[]⟩, .int .i64 0] 31)) hu hx hx2
  have HA := Lib.hid ha
  have HM := Lib.hid hm
  clear ha hm
  cases m
  · go_enter Tryz.func10, Tryz.ntmps10
    go_wp2_with fail
    refine HA.out.mono ?_
    rintro e w1 ⟨rfl, hc⟩
    have h0 : Dm (w.alloc (.cells #[.bool false, .string u, .int .i64 x] 31)) w.heap.size false u x := heap_alloc_new w (.cells #[.bool false, .string u, .int .i64 x] 31)
    have hc0 : w1.cell? ⟨w.heap.size, 0, none⟩ = some (.bool false) := hc.cell (a := ⟨w.heap.size, 0, none⟩) (((Chg.refl (fun _ => False) _).alloc _).cell (a := ⟨w.heap.size, 0, none⟩) h0.c0 (fun h => h)) (fun h => h)
    have HC : Hid (Chg (fun _ => False) w w1) := Lib.hid ((((Chg.refl (fun _ => False) w).alloc _).alloc _).trans hc (fun _ h => h) (fun _ _ h => h.elim))
    clear hc h0
    by_cases hz : u.size = 0
    · have hz2 : zres u x = ⟨#[]⟩ := by
        rw [nil_of_size hz]; exact zres_nil x
      rw [hz2]
      have HZ := Lib.hid hz
      clear hz2 hz
      go_wp2_with fail
      refine (jCompareDigits_nil _).mono ?_
      rintro e w' ⟨rfl, rfl⟩
      go_wp2
      go_ret
      exact ⟨0, rfl, ⟨fun _ => HZ.out, fun _ => rfl⟩, HC.out⟩
    · have hzp : 0 < (zres u x).size := by have := zres_size u x; omega
      have HZ := Lib.hid hz
      obtain ⟨z, hzz⟩ : ∃ z, z = zres u x := ⟨_, rfl⟩
      rw [← hzz] at hzp ⊢
      have hq := fun w => jCompareDigits_pos z w hzp
      clear hz hzz hzp
      go_wp2_with fail
      refine (hq _).mono ?_
      rintro e w' ⟨rfl, rfl⟩
      clear hq
      go_wp2
      go_ret
      exact ⟨1, rfl, ⟨fun h => by omega, fun h => absurd h HZ.out⟩, HC.out⟩
  · go_enter Tryz.func10, Tryz.ntmps10
    go_wp2
    go_ret
    exact ⟨-1, rfl, ⟨fun h => by omega, fun h => by have := HM.out h; cases this⟩, (((Chg.refl (fun _ => False) w).alloc _).alloc _)⟩
end Go.Proofs.YtbnmgopobmiadaaGreatDoor

/- The spec's jDecimalOf. -/
namespace Go.Proofs.YtbnmgopobmiadaaGreatDoor
open Go.RowKit

/-- what jDecimalOf hands back -/
def DecOf (s : ByteArray) (w : World) (e : Ending) (w' : World) : Prop :=
  ∃ m u x b, e = .returned (.tuple #[dec3 m u x, .bool b]) ∧ u.size ≤ 1000 ∧ -5000 ≤ x ∧ x ≤ 5000 ∧ (u.size = 0 → m = false) ∧ (b = true → ∃ i n dot E, Dec s i n dot E ∧ (u.size = 0 ↔ numTo s i n = 0)) ∧ (b = false → u.size = 0) ∧ Chg (fun _ => False) w w'
theorem DecOf.no {s : ByteArray} {w w' : World} (h : Chg (fun _ => False) w w') : DecOf s w (.returned (.tuple #[dec3 false ⟨#[]⟩ 0, .bool false])) w' :=
  ⟨false, ⟨#[]⟩, 0, false, rfl, by decide, by omega, by omega, fun _ => rfl, (fun h => by cases h), fun _ => rfl, h⟩

/-- an exponent's text behind a mantissa -/
theorem expo_of {s : ByteArray} {m : Nat} (hm : m ≤ s.size) (h : ExpS (s.extract m s.size)) : ∃ E, Expo s m E := by
  have hsz : (s.extract m s.size).size = s.size - m := by rw [ByteArray.size_extract, Nat.min_self]
  rcases h with h | ⟨h1, p, h2, h3, h4, h5⟩
  · exact ⟨0, .inl ⟨by omega, rfl⟩⟩
  · have hb : ∀ q, q < s.size - m → byt (s.extract m s.size) q = byt s (m + q) := fun q hq => byt_extract _ _ _ _ (by omega) (Nat.le_refl _)
    have hml : m < s.size := by omega
    rw [hb 0 (by omega), Nat.add_zero] at h1
    have hd : ∀ q, m + p ≤ q → q < s.size → 48 ≤ byt s q ∧ byt s q ≤ 57 := fun q a b => by
      have h6 := h5 (q - m) (by omega) (by omega)
      rw [hb (q - m) (by omega), show m + (q - m) = q by omega] at h6
      exact h6
    rcases h2 with rfl | ⟨rfl, h2⟩
    · exact ⟨_, .inr ⟨m + 1, hml, h1, .inl ⟨rfl, rfl⟩, by omega, by omega, hd⟩⟩
    · rw [hb 1 (by omega)] at h2
      rcases h2 with h2 | h2
      · exact ⟨_, .inr ⟨m + 2, hml, h1, .inr ⟨rfl, .inl ⟨h2, rfl⟩⟩, by omega, by omega, hd⟩⟩
      · exact ⟨_, .inr ⟨m + 2, hml, h1, .inr ⟨rfl, .inr ⟨h2, rfl⟩⟩, by omega, by omega, hd⟩⟩

theorem byt_left {x y : ByteArray} {q : Nat} (h : q < x.size) : byt (x ++ y) q = byt x q := by
  have h1 : q < (x ++ y).size := by rw [ByteArray.size_append]; omega
  rw [byt, dif_pos h1, byt, dif_pos h, ByteArray.getElem_append_left h]
theorem byt_right {x y : ByteArray} {q : Nat} (h : x.size ≤ q) (h2 : q < x.size + y.size) : byt (x ++ y) q = byt y (q - x.size) := by
  have h1 : q < (x ++ y).size := by rw [ByteArray.size_append]; omega
  have h3 : q - x.size < y.size := by omega
  rw [byt, dif_pos h1, byt, dif_pos h3, ByteArray.getElem_append_right h]
theorem zer_whole {s : ByteArray} {a k : Nat} (h : Run s a k) (hM : Mant s a (k - a) none) : Zer (s.extract a k) ↔ numTo s a (k - a) = 0 := by
  have hk := h.hi
  have hsz : (s.extract a k).size = k - a := by rw [ByteArray.size_extract, Nat.min_eq_left hk]
  rw [numTo_zero (fun q hq => hM.byte q hq)]
  constructor
  · intro hz q hq
    have h1 := hz q (by omega)
    rw [byt_extract _ _ _ _ (by omega) hk] at h1
    exact .inr h1
  · intro hz q hq
    rw [byt_extract _ _ _ _ (by omega) hk]
    have h1 := h.dig (a + q) (by omega) (by omega)
    have h2 := hz q (by omega)
    omega
theorem zer_point {s : ByteArray} {a k p : Nat} {dot : Option Nat} (h : Run s a k) (h2 : Run s (k + 1) p) (hb : byt s k = 46) (hM : Mant s a (p - a) dot) : Zer (s.extract a k ++ s.extract (k + 1) p) ↔ numTo s a (p - a) = 0 := by
  have hk := h.hi
  have hl := h.lo
  have hp := h2.hi
  have hkp := h2.lo
  have s1 : (s.extract a k).size = k - a := by rw [ByteArray.size_extract, Nat.min_eq_left hk]
  have s2 : (s.extract (k + 1) p).size = p - (k + 1) := by rw [ByteArray.size_extract, Nat.min_eq_left hp]
  have s3 : (s.extract a k ++ s.extract (k + 1) p).size = (k - a) + (p - (k + 1)) := by rw [ByteArray.size_append, s1, s2]
  rw [numTo_zero (fun q hq => hM.byte q hq)]
  constructor
  · intro hz q hq
    by_cases h3 : a + q < k
    · have h1 := hz q (by omega)
      rw [byt_left (by omega), byt_extract _ _ _ _ h3 hk] at h1
      exact .inr h1
    · by_cases h4 : a + q = k
      · exact .inl (by rw [h4]; exact hb)
      · have h1 := hz (q - 1) (by omega)
        rw [byt_right (by omega) (by omega), s1, byt_extract _ _ _ _ (by omega) hp, show k + 1 + (q - 1 - (k - a)) = a + q by omega] at h1
        exact .inr h1
  · intro hz q hq
    rw [s3] at hq
    by_cases h3 : q < k - a
    · rw [byt_left (by omega), byt_extract _ _ _ _ (by omega) hk]
      have h1 := h.dig (a + q) (by omega) (by omega)
      have h5 := hz q (by omega)
      omega
    · rw [byt_right (by omega) (by omega), s1, byt_extract _ _ _ _ (by omega) hp]
      have h1 := h2.dig (k + 1 + (q - (k - a))) (by omega) (by omega)
      have h5 := hz (k + 1 + (q - (k - a)) - a) (by omega)
      rw [show a + (k + 1 + (q - (k - a)) - a) = k + 1 + (q - (k - a)) by omega] at h5
      omega
/-- where the sign of a text ends -/
def At (s : ByteArray) (a : Nat) : Prop := a ≤ s.size ∧ ((a = 0 ∧ byt s 0 ≠ 45) ∨ (a = 1 ∧ byt s 0 = 45))
theorem plain_at {s : ByteArray} {a k : Nat} (hk : k ≤ s.size) (h : Alld (s.extract a k) 0 (s.extract a k).size ∧ 0 < (s.extract a k).size ∧ ((s.extract a k).size = 1 ∨ byt (s.extract a k) 0 ≠ 48)) : a < k ∧ (k = a + 1 ∨ byt s a ≠ 48) := by
  have hsz : (s.extract a k).size = k - a := by rw [ByteArray.size_extract, Nat.min_eq_left hk]
  obtain ⟨_, h1, h2⟩ := h
  refine ⟨by omega, ?_⟩
  rcases h2 with h2 | h2
  · exact .inl (by omega)
  · rw [byt_extract _ _ _ _ (by omega) hk, Nat.add_zero] at h2
    exact .inr h2
theorem DecOf.yes {s u : ByteArray} {a n : Nat} {dot : Option Nat} {m : Bool} {x : Int} {D : ByteArray} {w w' : World} (h40 : s.size ≤ 40) (hA : At s a) (hM : Mant s a n dot) (hx : ∃ E, Expo s (a + n) E) (hz : Zer D ↔ numTo s a n = 0)
    (h1 : u.size ≤ 1000) (h2 : u.size = 0 ↔ Zer D) (h3 : u.size = 0 → m = false) (h4 : -5000 ≤ x) (h5 : x ≤ 5000) (hc : Chg (fun _ => False) w w') : DecOf s w (.returned (.tuple #[dec3 m u x, .bool true])) w' := by
  obtain ⟨E, hE⟩ := hx
  exact ⟨m, u, x, true, rfl, h1, h4, h5, h3, fun _ => ⟨a, n, dot, E, ⟨h40, hA.2, hM, hE⟩, h2.trans hz⟩, (fun h => by cases h), hc⟩


end Go.Proofs.YtbnmgopobmiadaaGreatDoor
