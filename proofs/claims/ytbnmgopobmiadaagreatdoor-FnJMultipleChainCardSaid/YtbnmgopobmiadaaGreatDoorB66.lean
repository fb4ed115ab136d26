/- JIsDecimal, JSign, jDecimals. -/
import Derived.Test.YtbnmgopobmiadaaGreatDoorB63
import Derived.Test.YtbnmgopobmiadaaGreatDoorB45

set_option linter.unusedSimpArgs false
set_option linter.unusedVariables false

namespace Go.Proofs.YtbnmgopobmiadaaGreatDoor
open Go.RowKit

/-- a test that answers something and keeps memory -/
def Says (w : World) (e : Ending) (w' : World) : Prop := ∃ b : Bool, e = .returned (.bool b) ∧ Chg (fun _ => False) w w'
/-- the sign: a text of sign other than 0 is a number's -/
def SignN (s : ByteArray) (w : World) (e : Ending) (w' : World) : Prop := ∃ c : Int, e = .returned (.int .i64 c) ∧ (c ≠ 0 → ∃ neg P Q, NumOf s neg P Q) ∧ Chg (fun _ => False) w w'

set_option maxHeartbeats 1000000 in
set_option maxRecDepth 100000 in
theorem jIsDecimal_any (s : ByteArray) (w : World) (hd : Calls Tryz.prog 9 #[.string s] w (DecOf s w)) : Calls Tryz.prog 8 #[.string s] w (Says w) := by
  have HD := Lib.hid hd
  clear hd
  go_enter Tryz.func8, Tryz.ntmps8
  go_wp2_with fail
  refine HD.out.mono ?_
  rintro e w1 ⟨m, u, x, b, rfl, h1, h2, h3, h4, h5, h6, hc⟩
  unfold dec3
  have HF : Hid (Says w (.returned (.bool b)) (w1.alloc (.cells #[.bool m, .string u, .int .i64 x] 31))) := Lib.hid ⟨b, rfl, hc.alloc _⟩
  clear h1 h2 h3 h4 h5 h6 hc
  go_wp2
  go_ret
  exact HF.out

set_option maxHeartbeats 1000000 in
set_option maxRecDepth 100000 in
theorem jSign_any (s : ByteArray) (w : World) (hd : Calls Tryz.prog 9 #[.string s] w (DecOf s w)) : Calls Tryz.prog 5 #[.string s] w (SignN s w) := by
  have HD := Lib.hid hd
  clear hd
  go_enter Tryz.func5, Tryz.ntmps5
  go_wp2_with fail
  refine HD.out.mono ?_
  rintro e w1 ⟨m, u, x, b, rfl, h1, h2, h3, h4, h5, h6, hc⟩
  unfold dec3
  have hcc := hc.alloc (.cells #[.bool m, .string u, .int .i64 x] 31)
  have hj := jCompare_zero m u x (w1.alloc (.cells #[.bool m, .string u, .int .i64 x] 31)) h1 h2 h3 h4
  have HJ := Lib.hid hj
  have hn : u.size ≠ 0 → ∃ neg P Q, NumOf s neg P Q := fun hu => by
    cases b
    · exact absurd (h6 rfl) hu
    · obtain ⟨i, n, dot, E, hD, hz⟩ := h5 rfl
      exact ⟨_, _, _, i, n, dot, E, hD, fun h => hu (hz.2 h), rfl, rfl, rfl⟩
  have HN := Lib.hid (And.intro hcc hn)
  clear h1 h2 h3 h4 h5 h6 hc hcc hn hj
  go_wp2_with fail
  refine HJ.out.mono ?_
  rintro e w2 ⟨c, rfl, hz, hc2⟩
  have HF : Hid (SignN s w (.returned (.int .i64 c)) w2) := Lib.hid ⟨c, rfl, fun h => HN.out.2 (fun hu => h (hz.2 hu)), HN.out.1.trans hc2 (fun _ h => h) (fun _ _ h => h)⟩
  clear hz hc2
  go_wp2
  go_ret
  exact HF.out
end Go.Proofs.YtbnmgopobmiadaaGreatDoor

/- jDecimals: three texts. -/
namespace Go.Proofs.YtbnmgopobmiadaaGreatDoor
open Go.RowKit

set_option maxHeartbeats 1000000 in
set_option maxRecDepth 100000 in
theorem jDecimals_any (b : Nat) (w : World) (ht : ∀ i : Nat, i < 3 → ∃ t : ByteArray, t.size ≤ 9223372036854775807 ∧ w.cell? ⟨b, i, none⟩ = some (.string t))
    (hd : ∀ (t : ByteArray) (w : World), t.size ≤ 9223372036854775807 → Calls Tryz.prog 9 #[.string t] w (DecOf t w)) :
    Calls Tryz.prog 4 #[.slice (some ⟨b, 0, none⟩) 3 3] w (Says w) := by
  have HD := Lib.hid hd
  have HT := Lib.hid ht
  clear hd ht
  go_enter Tryz.func4, Tryz.ntmps4
  go_wp2_with fail
  go_loopw [3] (fun iv wc => ∃ i : Nat, iv = .int .i64 i ∧ i ≤ 3 ∧ Chg (fun _ => False) w wc) (fun iv _ => (3 - intOf iv).toNat)
  case atStart => exact ⟨0, rfl, by omega, Chg.refl _ _⟩
  case round =>
    obtain ⟨i, rfl, hi, hc⟩ := hrel
    by_cases hlt : i < 3
    · have l1 : (i : Int) < 3 := by omega
      obtain ⟨t, hts, htc⟩ := HT.out i hlt
      have htc2 : wr.cell? ⟨b, i, none⟩ = some (.string t) := hc.cell htc (fun h => h)
      have hj := jIsDecimal_any t wr (HD.out t wr hts)
      have HC := Lib.hid hc
      have HJ := Lib.hid hj
      clear hc hj htc hts
      go_wp2_with fail
      refine HJ.out.mono ?_
      rintro e w2 ⟨c, rfl, hc2⟩
      have HC2 := Lib.hid (HC.out.trans hc2 (fun _ h => h) (fun _ _ h => h))
      clear hc2
      cases c
      · go_wp2
        go_ret
        exact ⟨false, rfl, HC2.out⟩
      · go_wp2
        go_roundw
        case rel => exact ⟨i + 1, rfl, by omega, HC2.out⟩
        case measure => simp [intOf]; omega
    · have l1 : ¬ (i : Int) < 3 := by omega
      have HC := Lib.hid hc
      clear hc
      go_wp2
      go_ret
      exact ⟨true, rfl, HC.out⟩
end Go.Proofs.YtbnmgopobmiadaaGreatDoor
