/- (*Schema).Validate. -/
import Derived.Test.YtbnmgopobmiadaaGreatDoorB53
import Derived.Test.YtbnmgopobmiadaaGreatDoorB33
import Derived.Laws.Tables

set_option linter.unusedSimpArgs false
set_option linter.unusedVariables false

namespace Go.Proofs.YtbnmgopobmiadaaGreatDoor
open Go.RowKit

set_option maxHeartbeats 1000000 in
set_option maxRecDepth 100000 in
theorem validate13 (sb : Nat) (s : ByteArray) (ok : Bool) (w : World) (h : Calls Tryz.prog 23 #[.pointer (some ⟨sb, 0, none⟩), num s] w (Val23 ok w)) :
    Calls Tryz.prog 13 #[.pointer (some ⟨sb, 0, none⟩), num s] w (Val23 ok w) := by
  have H := Lib.hid h
  clear h
  unfold num at H ⊢
  go_enter Tryz.func13, Tryz.ntmps13
  go_wp2_with fail
  refine H.out.mono ?_
  rintro e w1 ⟨⟨hok, rfl⟩ | ⟨hok, N, rfl⟩, hc⟩
  · have HF : Hid (Val23 ok w (.returned .nilIface) w1) := Lib.hid ⟨.inl ⟨hok, rfl⟩, hc⟩
    clear hok hc
    go_wp2
    go_ret
    exact HF.out
  · have HF : Hid (Val23 ok w (.returned (.iface 107 (.pointer (some ⟨N, 0, none⟩)))) w1) := Lib.hid ⟨.inr ⟨hok, N, rfl⟩, hc⟩
    clear hok hc
    go_wp2
    go_ret
    exact HF.out
end Go.Proofs.YtbnmgopobmiadaaGreatDoor

/- Validate with the two schemas of the law. -/
namespace Go.Proofs.YtbnmgopobmiadaaGreatDoor
open Go.RowKit

theorem validate_mul13 (sb yb : Nat) (s : ByteArray) (neg yneg : Bool) (P Q Ya Yb : Nat) (yva yvb : Value) (te : TypeId) (ve : Value) (w : World)
    (hs : Sch w sb (.pointer none) (.pointer (some ⟨yb, 0, none⟩))) (hy : Rm w yb yneg yva Ya false yvb Yb) (h3 : Ya ≠ 0) (h4 : Yb ≠ 0) (l3 : wlen Ya ≤ 14) (l4 : wlen Yb ≤ 11) (hN : NumOf s neg P Q) (hE : Env te ve w) (hq : EofEq te ve) :
    Calls Tryz.prog 13 #[.pointer (some ⟨sb, 0, none⟩), num s] w (Val23 (mulB (P / Nat.gcd P Q) (Q / Nat.gcd P Q) Ya Yb) w) :=
  validate13 sb s _ w (validate_any sb s _ _ _ w hs (fun w1 vb pb ub b c hc _ hV => validate_mul vb sb pb ub yb b c s neg yneg P Q Ya Yb yva yvb te ve w1 hV (hy.keepF hc) h3 h4 l3 l4 hN (hE.keep hc (fun _ _ h => h)) hq))

theorem validate_typ13 (sb tb : Nat) (s : ByteArray) (neg : Bool) (P Q : Nat) (te : TypeId) (ve : Value) (w : World)
    (hs : Sch w sb (.pointer (some ⟨tb, 0, none⟩)) (.pointer none)) (ht : w.cell? ⟨tb, 0, none⟩ = some (.int .i64 16)) (hN : NumOf s neg P Q) (hE : Env te ve w) (hq : EofEq te ve) :
    Calls Tryz.prog 13 #[.pointer (some ⟨sb, 0, none⟩), num s] w (Val23 (decide (Q / Nat.gcd P Q = 1)) w) :=
  validate13 sb s _ w (validate_any sb s _ _ _ w hs (fun w1 vb pb ub b c hc _ hV => validate_typ vb sb pb ub tb b c s neg P Q te ve w1 hV (hc.cell ht (fun h => h)) hN (hE.keep hc (fun _ _ h => h)) hq))
end Go.Proofs.YtbnmgopobmiadaaGreatDoor

/- JMultiple. -/
namespace Go.Proofs.YtbnmgopobmiadaaGreatDoor
open Go.RowKit

theorem b60m (b : Nat) : Tryz.prog.built 60 [(6, .int .i64 2020), (56, .pointer (some ⟨b, 0, none⟩))] = some (
  #[.string ⟨#[]⟩, .string ⟨#[]⟩, .pointer none, .map none, .bool false, .bool false, .int .i64 0, .int .i64 2020, .string ⟨#[]⟩,
    .pointer none, .string ⟨#[]⟩, .pointer none, .string ⟨#[]⟩, .pointer none, .bool false, .pointer none, .string ⟨#[]⟩, .pointer none, .pointer none, .pointer none, .pointer none, .slice none 0 0, .slice none 0 0, .slice none 0 0, .pointer none, .pointer none, .pointer none, .pointer none,
    .pointer none, .pointer none, .slice none 0 0, .pointer none, .map none, .map none, .nilIface, .map none, .map none, .map none, .pointer none,
    .pointer none, .pointer none, .bool false, .pointer none, .pointer none, .pointer none, .nilIface, .nilIface, .slice none 0 0, .pointer none, .pointer none,
    .pointer none, .pointer none, .nilIface,
    .pointer none, .pointer none, .pointer none, .pointer none, .pointer (some ⟨b, 0, none⟩),
    .string ⟨#[]⟩, .string ⟨#[]⟩, .pointer none, .string ⟨#[]⟩, .bool false, .bool false, .slice none 0 0, .bool false]) := built_mul _
theorem wp_built {o : Oper} {a : Act} {w : World} {K : Act → World → Prop} {Q : Exit → Act → World → Prop} {t : TypeId} {vs : List (Nat × Value)} {cells : Array Value} (hc : Tryz.prog.built t vs = some cells) (parts : Array (Nat × Operand)) (ho : o.op = .build t parts)
    (hv : (parts.map fun (i, x) => (i, a.eval x)).toList = vs) (h : K (a.put o.dst (.agg cells)) w) : o.wp Tryz.prog a w K Q :=
  wp_build t parts ho (by rw [hv, hc]; rfl) (by rw [hv, hc]; exact h)


/-- an answer and 'fine' -/
def MulIs (b : Bool) (w : World) (e : Ending) (w' : World) : Prop := e = .returned (.tuple #[.bool b, .bool true]) ∧ Chg (fun _ => False) w w'

set_option maxHeartbeats 4000000 in
set_option maxRecDepth 100000 in
theorem jMultiple_any (s t : ByteArray) (neg neg' : Bool) (P Q P' Q' : Nat) (te : TypeId) (ve : Value) (w : World) (hN : NumOf s neg P Q) (hM : NumOf t neg' P' Q') (hE : Env te ve w) (hq : EofEq te ve) :
    Calls Tryz.prog 6 #[.string s, .string t] w (MulIs (mulB (P / Nat.gcd P Q) (Q / Nat.gcd P Q) (P' / Nat.gcd P' Q') (Q' / Nat.gcd P' Q')) w) := by
  have hr1 := rat_any s neg P Q te ve w hN hE hq
  have HR1 := Lib.hid hr1
  have HM := Lib.hid hM
  have HN := Lib.hid hN
  have HE := Lib.hid hE
  have HQ := Lib.hid hq
  clear hr1 hN hM hE hq
  go_enter Tryz.func6, Tryz.ntmps6
  go_wp2_with fail
  refine HR1.out.mono ?_
  rintro e w1 ⟨b1, rfl, neg1, va1, vb1, hR1, hn1, hc1⟩
  have hr2 := rat_any t neg' P' Q' te ve w1 HM.out (HE.out.keep hc1 (fun _ _ h => h)) HQ.out
  have HR2 := Lib.hid hr2
  have HC1 := Lib.hid hc1
  clear hR1 hn1 hc1 hr2
  go_wp2_with fail
  refine HR2.out.mono ?_
  rintro e w2 ⟨b2, rfl, neg2, va, vb, hR, hn, hc⟩
  have hp := HM.out.pos
  have hdn := div_gcd_ne hp.1 hp.2.1
  have hsg := ratSign b2 neg2 false va vb _ _ w2 hR hdn.1
  have HC2 := Lib.hid (HC1.out.trans hc (fun _ h => h) (fun _ _ h => h))
  have HR := Lib.hid hR
  have HS := Lib.hid hsg
  have HD := Lib.hid (And.intro hp hdn)
  clear hR hn hc hp hdn hsg
  go_wp2_with fail
  refine HS.out.mono ?_
  rintro e w' ⟨⟨n, hn, rfl⟩, rfl⟩
  have hn0 : (n == 0) = false := beq_eq_false_iff_ne.2 hn
  have hal := Chg.alloc (Chg.refl (fun _ => False) w2) (.cells (sch60 (.pointer none) (.pointer (some ⟨b2, 0, none⟩))) 60)
  have hv := validate_mul13 w2.heap.size b2 s neg neg2 P Q _ _ va vb te ve (w2.alloc (.cells (sch60 (.pointer none) (.pointer (some ⟨b2, 0, none⟩))) 60)) (heap_alloc_new _ _) (HR.out.keepF hal) HD.out.2.1 HD.out.2.2
    (Nat.le_trans (wlen_div_le _ _) HD.out.1.2.2.1) (Nat.le_trans (wlen_div_le _ _) HD.out.1.2.2.2) HN.out (HE.out.keep (HC2.out.trans hal (fun _ h => h) (fun _ _ h => h)) (fun _ _ h => h)) HQ.out
  have HC3 := Lib.hid (HC2.out.trans hal (fun _ h => h) (fun _ _ h => h))
  unfold num sch60 at hv
  unfold sch60 at HC3
  have HV := Lib.hid hv
  clear hn hv hal
  go_wp2_with fail
  refine wp_built (b60m b2) _ rfl (by first | kernel_rfl | simp [Act.eval]) ?_
  go_wp2_with fail
  refine HV.out.mono ?_
  rintro e w3 ⟨⟨hok, rfl⟩ | ⟨hok, N, rfl⟩, hc3⟩
  · have HF : Hid (MulIs (mulB (P / Nat.gcd P Q) (Q / Nat.gcd P Q) (P' / Nat.gcd P' Q') (Q' / Nat.gcd P' Q')) w (.returned (.tuple #[.bool true, .bool true])) w3) := Lib.hid ⟨by rw [hok], HC3.out.trans hc3 (fun _ h => h) (fun _ _ h => h)⟩
    clear hok hc3 HC3
    go_wp2
    go_ret2
    exact HF.out
  · have HF : Hid (MulIs (mulB (P / Nat.gcd P Q) (Q / Nat.gcd P Q) (P' / Nat.gcd P' Q') (Q' / Nat.gcd P' Q')) w (.returned (.tuple #[.bool false, .bool true])) w3) := Lib.hid ⟨by rw [hok], HC3.out.trans hc3 (fun _ h => h) (fun _ _ h => h)⟩
    clear hok hc3 HC3
    go_wp2
    go_ret2
    exact HF.out
end Go.Proofs.YtbnmgopobmiadaaGreatDoor

/- JInteger. -/
namespace Go.Proofs.YtbnmgopobmiadaaGreatDoor
open Go.RowKit

theorem b60t (b : Nat) : Tryz.prog.built 60 [(6, .int .i64 2020), (16, .pointer (some ⟨b, 0, none⟩))] = some (
  #[.string ⟨#[]⟩, .string ⟨#[]⟩, .pointer none, .map none, .bool false, .bool false, .int .i64 0, .int .i64 2020, .string ⟨#[]⟩,
    .pointer none, .string ⟨#[]⟩, .pointer none, .string ⟨#[]⟩, .pointer none, .bool false, .pointer none, .string ⟨#[]⟩, .pointer (some ⟨b, 0, none⟩), .pointer none, .pointer none, .pointer none, .slice none 0 0, .slice none 0 0, .slice none 0 0, .pointer none, .pointer none, .pointer none, .pointer none,
    .pointer none, .pointer none, .slice none 0 0, .pointer none, .map none, .map none, .nilIface, .map none, .map none, .map none, .pointer none,
    .pointer none, .pointer none, .bool false, .pointer none, .pointer none, .pointer none, .nilIface, .nilIface, .slice none 0 0, .pointer none, .pointer none,
    .pointer none, .pointer none, .nilIface,
    .pointer none, .pointer none, .pointer none, .pointer none, .pointer none,
    .string ⟨#[]⟩, .string ⟨#[]⟩, .pointer none, .string ⟨#[]⟩, .bool false, .bool false, .slice none 0 0, .bool false]) := built_typ _

theorem int_new (w : World) (n : Int) (sc : Array Value) : ((w.alloc (.cells #[.int .i64 n] 64)).alloc (.cells sc 60)).heap[w.heap.size]? = some (.cells #[.int .i64 n] 64 (0, 0)) :=
  (Below.heap_alloc _ _ _ (by rw [alloc_size]; omega)).trans (heap_alloc_new w _)
theorem int_sch (w : World) (n : Int) (p q : Value) : Sch ((w.alloc (.cells #[.int .i64 n] 64)).alloc (.cells (sch60 p q) 60)) (w.heap.size + 1) p q := by
  have h := heap_alloc_new (w.alloc (.cells #[.int .i64 n] 64)) (.cells (sch60 p q) 60)
  rw [alloc_size] at h
  exact h
theorem int_cell (w : World) (n : Int) (sc : Array Value) : ((w.alloc (.cells #[.int .i64 n] 64)).alloc (.cells sc 60)).cell? ⟨w.heap.size, 0, none⟩ = some (.int .i64 n) := by
  simp only [World.cell?, int_new w n sc]; rfl

set_option maxHeartbeats 4000000 in
set_option maxRecDepth 100000 in
theorem jInteger_any (s : ByteArray) (neg : Bool) (P Q : Nat) (te : TypeId) (ve : Value) (w : World) (hN : NumOf s neg P Q) (hE : Env te ve w) (hq : EofEq te ve) :
    Calls Tryz.prog 7 #[.string s] w (MulIs (decide (Q / Nat.gcd P Q = 1)) w) := by
  have hr1 := rat_any s neg P Q te ve w hN hE hq
  have HR1 := Lib.hid hr1
  have HN := Lib.hid hN
  have HE := Lib.hid hE
  have HQ := Lib.hid hq
  clear hr1 hN hE hq
  go_enter Tryz.func7, Tryz.ntmps7
  go_wp2_with fail
  refine HR1.out.mono ?_
  rintro e w1 ⟨b1, rfl, neg1, va1, vb1, hR1, hn1, hc1⟩
  have ha := typesAdd w1.heap.size ((w1.alloc (.cells #[.int .i64 0] 64)).alloc (.cells (sch60 (.pointer (some ⟨w1.heap.size, 0, none⟩)) (.pointer none)) 60)) (int_new w1 0 _)
  have hcw := Chg.alloc (Chg.alloc (Chg.refl (fun _ => False) w1) (.cells #[.int .i64 16] 64)) (.cells (sch60 (.pointer (some ⟨w1.heap.size, 0, none⟩)) (.pointer none)) 60)
  have hv := validate_typ13 (w1.heap.size + 1) w1.heap.size s neg P Q te ve _ (int_sch w1 16 (.pointer (some ⟨w1.heap.size, 0, none⟩)) (.pointer none)) (int_cell w1 16 _) HN.out (HE.out.keep (hc1.trans hcw (fun _ h => h) (fun _ _ h => h)) (fun _ _ h => h)) HQ.out
  have HC3 := Lib.hid (hc1.trans hcw (fun _ h => h) (fun _ _ h => h))
  have d17 : ((w1.alloc (.cells #[.int .i64 0] 64)).alloc (.cells (sch60 (.pointer (some ⟨w1.heap.size, 0, none⟩)) (.pointer none)) 60)).cell? ⟨w1.heap.size + 1, 17, none⟩ = some (.pointer (some ⟨w1.heap.size, 0, none⟩)) := by
    have h := heap_alloc_new (w1.alloc (.cells #[.int .i64 0] 64)) (.cells (sch60 (.pointer (some ⟨w1.heap.size, 0, none⟩)) (.pointer none)) 60)
    rw [alloc_size] at h
    simp only [World.cell?, h]; rfl
  unfold sch60 at ha d17
  unfold num sch60 at hv
  unfold sch60 at HC3
  have HA := Lib.hid ha
  have HV := Lib.hid hv
  clear hv ha hR1 hn1 hc1 hcw
  go_wp2_with fail
  refine wp_built (b60t w1.heap.size) _ rfl (by first | kernel_rfl | simp [Act.eval]) ?_
  go_wp2_with fail
  refine HA.out.mono ?_
  rintro e w2 ⟨rfl, rfl⟩
  clear d17
  go_wp2_with fail
  refine HV.out.mono ?_
  rintro e w3 ⟨⟨hok, rfl⟩ | ⟨hok, N, rfl⟩, hc3⟩
  · have HF : Hid (MulIs (decide (Q / Nat.gcd P Q = 1)) w (.returned (.tuple #[.bool true, .bool true])) w3) := Lib.hid ⟨by rw [hok], HC3.out.trans hc3 (fun _ h => h) (fun _ _ h => h)⟩
    clear hok hc3 HC3 HV HA
    go_wp2
    go_ret2
    exact HF.out
  · have HF : Hid (MulIs (decide (Q / Nat.gcd P Q = 1)) w (.returned (.tuple #[.bool false, .bool true])) w3) := Lib.hid ⟨by rw [hok], HC3.out.trans hc3 (fun _ h => h) (fun _ _ h => h)⟩
    clear hok hc3 HC3 HV HA
    go_wp2
    go_ret2
    exact HF.out
end Go.Proofs.YtbnmgopobmiadaaGreatDoor
