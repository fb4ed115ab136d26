/- From the laid variables to the walk's facts. -/
import Derived.Test.YtbnmgopobmiadaaGreatDoorB73
import Derived.Test.YtbnmgopobmiadaaGreatDoorB45
import Derived.LaidSub
import Derived.LaidMore
import Derived.ProofKit
import Derived.MakeChecks

set_option linter.unusedSimpArgs false
set_option linter.unusedVariables false

namespace Go.Proofs.YtbnmgopobmiadaaGreatDoor
open Go.ChangeShapes Go.WideShapes Go.RowKit

def keep5 (x : String × DataW Unit) : Bool :=
  x.1 == "io.EOF" || x.1 == "given.example/pub-querent/pub/bigall.divRecursiveThreshold" || x.1 == "given.example/pub-querent/pub/bigall.karatsubaThreshold" || x.1 == "given.example/pub-querent/pub/bigall.basicSqrThreshold" || x.1 == "given.example/pub-querent/pub/bigall.karatsubaSqrThreshold"
def laid5 : List (String × DataW Unit) := [("io.EOF", Rows.laid_io_EOF), ("given.example/pub-querent/pub/bigall.divRecursiveThreshold", Rows.laid_given_example_pub_querent_pub_bigall_divRecursiveThreshold), ("given.example/pub-querent/pub/bigall.karatsubaThreshold", Rows.laid_given_example_pub_querent_pub_bigall_karatsubaThreshold), ("given.example/pub-querent/pub/bigall.basicSqrThreshold", Rows.laid_given_example_pub_querent_pub_bigall_basicSqrThreshold), ("given.example/pub-querent/pub/bigall.karatsubaSqrThreshold", Rows.laid_given_example_pub_querent_pub_bigall_karatsubaSqrThreshold)]
theorem laid5_eq : Rows.fnJMultipleChainRow.laid.filter keep5 = laid5 := by kernel_rfl

theorem laid5_of {W : World} (h : laidMetH Tryz.prog Rows.fnJMultipleChainRow.laid W) : laidMet Tryz.prog laid5 W := by
  have h1 := h.filter keep5
  rw [laid5_eq, MakeChecks.laidMetH_plain _ _ _ (by kernel_rfl)] at h1
  exact h1

theorem int_of_laid {W : World} {n : String} {g t : Nat} {cs : Array Value} {fuel : Nat} {m : Int} {p : List MemPlace} (hg : Tryz.prog.globalNamed n = some g) (hv : W.var? Tryz.prog n = some cs) (ht : t = 3)
    (hd : DataW.trod (fun _ => ()) Tryz.prog W 0 (fun _ => true) false fuel t cs.toList = some (.lit (.int .i64 m), p)) : W.cell? ⟨g, 0, none⟩ = some (.int .i64 m) := by
  subst ht
  obtain ⟨k, e1, e2, _⟩ := DataW.trod_int Tryz.underlying3 hd
  obtain rfl : m = k := by simpa using congrArg Prod.fst e2
  rw [World.var?_cell hg hv 0]
  obtain ⟨l⟩ := cs
  simp only at e1
  subst e1
  rfl

theorem cells9 : Tryz.prog.cellsOf 9 = 1 := by kernel_rfl
set_option maxRecDepth 100000 in
theorem env_of_laid {W : World} (h : laidMet Tryz.prog laid5 W) (hsz : 12 ≤ W.heap.size) : ∃ a s, Env 403 (.pointer (some a)) W ∧ W.cell? a = some (.string s) := by
  obtain ⟨ps, ⟨g0, t0, cs0, f0, p0, q0, hg0, ht0, hv0, hd0, ⟨g1, t1, cs1, f1, p1, q1, hg1, ht1, hv1, hd1, ⟨g2, t2, cs2, f2, p2, q2, hg2, ht2, hv2, hd2, ⟨g3, t3', cs3, f3, p3, q3, hg3, ht3, hv3, hd3, ⟨g4, t4, cs4, f4, p4, q4, hg4, ht4, hv4, hd4, _, e4⟩, e3⟩, e2⟩, e1⟩, e0⟩, hnd, hrows⟩ := h
  obtain rfl := Option.some.inj (gEOF.symm.trans hg0)
  obtain rfl := Option.some.inj (gR.symm.trans hg1)
  obtain rfl := Option.some.inj (gK.symm.trans hg2)
  obtain rfl := Option.some.inj (gB.symm.trans hg3)
  obtain rfl := Option.some.inj (gS.symm.trans hg4)
  obtain rfl := Option.some.inj (tEOF.symm.trans ht0)
  have i7 := int_of_laid hg1 hv1 (Option.some.inj (ht1.symm.trans (by kernel_rfl))) hd1
  have i3 := int_of_laid hg2 hv2 (Option.some.inj (ht2.symm.trans (by kernel_rfl))) hd2
  have i4 := int_of_laid hg3 hv3 (Option.some.inj (ht3.symm.trans (by kernel_rfl))) hd3
  have i5 := int_of_laid hg4 hv4 (Option.some.inj (ht4.symm.trans (by kernel_rfl))) hd4
  obtain ⟨l0⟩ := cs0
  have ok0 : ∀ u v, l0 = [.iface u v] → Value.okWide Tryz.prog W .any 0 u v := fun u v e => by
    subst e
    exact (hrows 0 0 (by rw [e0]; simp [MemPlace.row])).2 u v (by simpa using World.var?_cell hg0 hv0 0)
  obtain ⟨a, s, rfl, hc0, hs0, hz0, rfl⟩ := errorString_of_trod Tryz.underlying62 row403 Tryz.underlying403 Tryz.underlying405 rfl rfl Tryz.underlying9 cells405 cells9 hd0 ok0
  exact ⟨a, s, ⟨by simpa using World.var?_cell hg0 hv0 0, i3, i4, i5, i7, hsz⟩, hc0⟩

theorem comp403 : (Tryz.prog.info? 403).map (·.comparable) = some true := by kernel_rfl
theorem size405 : (Tryz.prog.info? 405).map (·.size) = some 1 := by kernel_rfl
theorem eofEq (a : Addr) : EofEq 403 (.pointer (some a)) := by
  obtain ⟨i, hi, hcmp⟩ := Option.map_eq_some_iff.1 comp403
  obtain ⟨j, hj, _⟩ := Option.map_eq_some_iff.1 size405
  refine ⟨fun w => run_eql_iface_ptr_same (P := Tryz.prog) w a Tryz.underlying62 Tryz.underlying403 hi hcmp hj, fun w => run_eql_iface_nil_left (P := Tryz.prog) w 403 (.pointer (some a)) Tryz.underlying62, fun w => ?_⟩
  simp only [binOp]
  simp [Op.equal, Op.maxDepth, run_equalIn_iface_ptr_same w 9998 a Tryz.underlying62 Tryz.underlying403 hi hcmp hj]

theorem g12 : Tryz.prog.globalNamed "internal/strconv.uint64pow10" = some 12 := by kernel_rfl
theorem laid1_eq : Rows.fnJMultipleChainRow.laid.filter (fun x => x.1 == "internal/strconv.uint64pow10") = [("internal/strconv.uint64pow10", Rows.laid_internal_strconv_uint64pow10)] := by kernel_rfl
theorem var_lt {P : Program} {W : World} {n : String} {g : Nat} {cs : Array Value} (hg : P.globalNamed n = some g) (h : W.var? P n = some cs) : g < W.heap.size := by
  unfold World.var? at h
  rw [hg] at h
  simp only [Option.bind_some] at h
  rcases Nat.lt_or_ge g W.heap.size with hl | hl
  · exact hl
  · rw [Array.getElem?_eq_none (by omega)] at h; cases h
theorem size_of_laid {W : World} (h : laidMetH Tryz.prog Rows.fnJMultipleChainRow.laid W) : 12 ≤ W.heap.size := by
  have h1 := h.filter (fun x => x.1 == "internal/strconv.uint64pow10")
  rw [laid1_eq, MakeChecks.laidMetH_plain _ _ _ (by kernel_rfl)] at h1
  obtain ⟨ps, ⟨g0, t0, cs0, f0, p0, q0, hg0, ht0, hv0, hd0, _, _⟩, _, _⟩ := h1
  obtain rfl := Option.some.inj (g12.symm.trans hg0)
  have := var_lt hg0 hv0
  omega
end Go.Proofs.YtbnmgopobmiadaaGreatDoor
