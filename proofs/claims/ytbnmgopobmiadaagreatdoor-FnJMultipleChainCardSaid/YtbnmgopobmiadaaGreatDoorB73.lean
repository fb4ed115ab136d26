/- Lemmas of the proof of FnJMultipleChain (W73). -/
import Derived.Test.YtbnmgopobmiadaaGreatDoorRows
import Derived.LaidLaws

set_option linter.unusedSimpArgs false
set_option linter.unusedVariables false

namespace Go.Proofs.YtbnmgopobmiadaaGreatDoor
open Go
theorem gEOF : Tryz.prog.globalNamed "io.EOF" = some 0 := by kernel_rfl
theorem gR : Tryz.prog.globalNamed "given.example/pub-querent/pub/bigall.divRecursiveThreshold" = some 7 := by kernel_rfl
theorem gK : Tryz.prog.globalNamed "given.example/pub-querent/pub/bigall.karatsubaThreshold" = some 3 := by kernel_rfl
theorem gB : Tryz.prog.globalNamed "given.example/pub-querent/pub/bigall.basicSqrThreshold" = some 4 := by kernel_rfl
theorem gS : Tryz.prog.globalNamed "given.example/pub-querent/pub/bigall.karatsubaSqrThreshold" = some 5 := by kernel_rfl
theorem tEOF : (Tryz.prog.globals[0]?).map (·.type) = some 62 := by kernel_rfl
theorem t3 : (Tryz.prog.globals[3]?).map (·.type) = some 3 := by kernel_rfl
theorem name403 : Tryz.prog.typeName? 3 403 = some "*errors.errorString" := by kernel_rfl
theorem cells405 : Tryz.prog.cellsOf 405 = 1 := by kernel_rfl
theorem u403 : Tryz.prog.underlying 403 = some (.pointer 405) := by kernel_rfl
theorem star : "*" ++ "errors.errorString" = "*errors.errorString" := by decide
theorem size487 : Tryz.prog.types.size = 487 := by kernel_rfl
theorem hr0 : ((List.range' 0 25).all fun u => Tryz.prog.typeName? 3 u != some "*errors.errorString" || u == 403) = true := by kernel_rfl
theorem hr1 : ((List.range' 25 25).all fun u => Tryz.prog.typeName? 3 u != some "*errors.errorString" || u == 403) = true := by kernel_rfl
theorem hr2 : ((List.range' 50 25).all fun u => Tryz.prog.typeName? 3 u != some "*errors.errorString" || u == 403) = true := by kernel_rfl
theorem hr3 : ((List.range' 75 25).all fun u => Tryz.prog.typeName? 3 u != some "*errors.errorString" || u == 403) = true := by kernel_rfl
theorem hr4 : ((List.range' 100 25).all fun u => Tryz.prog.typeName? 3 u != some "*errors.errorString" || u == 403) = true := by kernel_rfl
theorem hr5 : ((List.range' 125 25).all fun u => Tryz.prog.typeName? 3 u != some "*errors.errorString" || u == 403) = true := by kernel_rfl
theorem hr6 : ((List.range' 150 25).all fun u => Tryz.prog.typeName? 3 u != some "*errors.errorString" || u == 403) = true := by kernel_rfl
theorem hr7 : ((List.range' 175 25).all fun u => Tryz.prog.typeName? 3 u != some "*errors.errorString" || u == 403) = true := by kernel_rfl
theorem hr8 : ((List.range' 200 25).all fun u => Tryz.prog.typeName? 3 u != some "*errors.errorString" || u == 403) = true := by kernel_rfl
theorem hr9 : ((List.range' 225 25).all fun u => Tryz.prog.typeName? 3 u != some "*errors.errorString" || u == 403) = true := by kernel_rfl
theorem hr10 : ((List.range' 250 25).all fun u => Tryz.prog.typeName? 3 u != some "*errors.errorString" || u == 403) = true := by kernel_rfl
theorem hr11 : ((List.range' 275 25).all fun u => Tryz.prog.typeName? 3 u != some "*errors.errorString" || u == 403) = true := by kernel_rfl
theorem hr12 : ((List.range' 300 25).all fun u => Tryz.prog.typeName? 3 u != some "*errors.errorString" || u == 403) = true := by kernel_rfl
theorem hr13 : ((List.range' 325 25).all fun u => Tryz.prog.typeName? 3 u != some "*errors.errorString" || u == 403) = true := by kernel_rfl
theorem hr14 : ((List.range' 350 25).all fun u => Tryz.prog.typeName? 3 u != some "*errors.errorString" || u == 403) = true := by kernel_rfl
theorem hr15 : ((List.range' 375 25).all fun u => Tryz.prog.typeName? 3 u != some "*errors.errorString" || u == 403) = true := by kernel_rfl
theorem hr16 : ((List.range' 400 25).all fun u => Tryz.prog.typeName? 3 u != some "*errors.errorString" || u == 403) = true := by kernel_rfl
theorem hr17 : ((List.range' 425 25).all fun u => Tryz.prog.typeName? 3 u != some "*errors.errorString" || u == 403) = true := by kernel_rfl
theorem hr18 : ((List.range' 450 25).all fun u => Tryz.prog.typeName? 3 u != some "*errors.errorString" || u == 403) = true := by kernel_rfl
theorem hr19 : ((List.range' 475 12).all fun u => Tryz.prog.typeName? 3 u != some "*errors.errorString" || u == 403) = true := by kernel_rfl
theorem hn0 : ((List.range' 0 25).all fun e => Tryz.prog.typeName? 2 e != some "errors.errorString" || (match (Tryz.prog.info? e).map (·.desc) with | some (TypeDesc.named _ _) => true | _ => false)) = true := by kernel_rfl
theorem hn1 : ((List.range' 25 25).all fun e => Tryz.prog.typeName? 2 e != some "errors.errorString" || (match (Tryz.prog.info? e).map (·.desc) with | some (TypeDesc.named _ _) => true | _ => false)) = true := by kernel_rfl
theorem hn2 : ((List.range' 50 25).all fun e => Tryz.prog.typeName? 2 e != some "errors.errorString" || (match (Tryz.prog.info? e).map (·.desc) with | some (TypeDesc.named _ _) => true | _ => false)) = true := by kernel_rfl
theorem hn3 : ((List.range' 75 25).all fun e => Tryz.prog.typeName? 2 e != some "errors.errorString" || (match (Tryz.prog.info? e).map (·.desc) with | some (TypeDesc.named _ _) => true | _ => false)) = true := by kernel_rfl
theorem hn4 : ((List.range' 100 25).all fun e => Tryz.prog.typeName? 2 e != some "errors.errorString" || (match (Tryz.prog.info? e).map (·.desc) with | some (TypeDesc.named _ _) => true | _ => false)) = true := by kernel_rfl
theorem hn5 : ((List.range' 125 25).all fun e => Tryz.prog.typeName? 2 e != some "errors.errorString" || (match (Tryz.prog.info? e).map (·.desc) with | some (TypeDesc.named _ _) => true | _ => false)) = true := by kernel_rfl
theorem hn6 : ((List.range' 150 25).all fun e => Tryz.prog.typeName? 2 e != some "errors.errorString" || (match (Tryz.prog.info? e).map (·.desc) with | some (TypeDesc.named _ _) => true | _ => false)) = true := by kernel_rfl
theorem hn7 : ((List.range' 175 25).all fun e => Tryz.prog.typeName? 2 e != some "errors.errorString" || (match (Tryz.prog.info? e).map (·.desc) with | some (TypeDesc.named _ _) => true | _ => false)) = true := by kernel_rfl
theorem hn8 : ((List.range' 200 25).all fun e => Tryz.prog.typeName? 2 e != some "errors.errorString" || (match (Tryz.prog.info? e).map (·.desc) with | some (TypeDesc.named _ _) => true | _ => false)) = true := by kernel_rfl
theorem hn9 : ((List.range' 225 25).all fun e => Tryz.prog.typeName? 2 e != some "errors.errorString" || (match (Tryz.prog.info? e).map (·.desc) with | some (TypeDesc.named _ _) => true | _ => false)) = true := by kernel_rfl
theorem hn10 : ((List.range' 250 25).all fun e => Tryz.prog.typeName? 2 e != some "errors.errorString" || (match (Tryz.prog.info? e).map (·.desc) with | some (TypeDesc.named _ _) => true | _ => false)) = true := by kernel_rfl
theorem hn11 : ((List.range' 275 25).all fun e => Tryz.prog.typeName? 2 e != some "errors.errorString" || (match (Tryz.prog.info? e).map (·.desc) with | some (TypeDesc.named _ _) => true | _ => false)) = true := by kernel_rfl
theorem hn12 : ((List.range' 300 25).all fun e => Tryz.prog.typeName? 2 e != some "errors.errorString" || (match (Tryz.prog.info? e).map (·.desc) with | some (TypeDesc.named _ _) => true | _ => false)) = true := by kernel_rfl
theorem hn13 : ((List.range' 325 25).all fun e => Tryz.prog.typeName? 2 e != some "errors.errorString" || (match (Tryz.prog.info? e).map (·.desc) with | some (TypeDesc.named _ _) => true | _ => false)) = true := by kernel_rfl
theorem hn14 : ((List.range' 350 25).all fun e => Tryz.prog.typeName? 2 e != some "errors.errorString" || (match (Tryz.prog.info? e).map (·.desc) with | some (TypeDesc.named _ _) => true | _ => false)) = true := by kernel_rfl
theorem hn15 : ((List.range' 375 25).all fun e => Tryz.prog.typeName? 2 e != some "errors.errorString" || (match (Tryz.prog.info? e).map (·.desc) with | some (TypeDesc.named _ _) => true | _ => false)) = true := by kernel_rfl
theorem hn16 : ((List.range' 400 25).all fun e => Tryz.prog.typeName? 2 e != some "errors.errorString" || (match (Tryz.prog.info? e).map (·.desc) with | some (TypeDesc.named _ _) => true | _ => false)) = true := by kernel_rfl
theorem hn17 : ((List.range' 425 25).all fun e => Tryz.prog.typeName? 2 e != some "errors.errorString" || (match (Tryz.prog.info? e).map (·.desc) with | some (TypeDesc.named _ _) => true | _ => false)) = true := by kernel_rfl
theorem hn18 : ((List.range' 450 25).all fun e => Tryz.prog.typeName? 2 e != some "errors.errorString" || (match (Tryz.prog.info? e).map (·.desc) with | some (TypeDesc.named _ _) => true | _ => false)) = true := by kernel_rfl
theorem hn19 : ((List.range' 475 12).all fun e => Tryz.prog.typeName? 2 e != some "errors.errorString" || (match (Tryz.prog.info? e).map (·.desc) with | some (TypeDesc.named _ _) => true | _ => false)) = true := by kernel_rfl
theorem all_chunk {f : Nat → Bool} {k m : Nat} (h : ((List.range' k m).all f) = true) (u : Nat) (h1 : k ≤ u) (h2 : u < k + m) : f u = true :=
  List.all_eq_true.1 h u (by rw [List.mem_range'_1]; omega)
theorem hr_all : ((List.range Tryz.prog.types.size).all fun u => Tryz.prog.typeName? 3 u != some "*errors.errorString" || u == 403) = true := by
  rw [size487, List.all_eq_true]
  intro u hu
  have hlt := List.mem_range.1 hu
  by_cases h0 : u < 25
  · exact all_chunk hr0 u (by omega) (by omega)
  by_cases h1 : u < 50
  · exact all_chunk hr1 u (by omega) (by omega)
  by_cases h2 : u < 75
  · exact all_chunk hr2 u (by omega) (by omega)
  by_cases h3 : u < 100
  · exact all_chunk hr3 u (by omega) (by omega)
  by_cases h4 : u < 125
  · exact all_chunk hr4 u (by omega) (by omega)
  by_cases h5 : u < 150
  · exact all_chunk hr5 u (by omega) (by omega)
  by_cases h6 : u < 175
  · exact all_chunk hr6 u (by omega) (by omega)
  by_cases h7 : u < 200
  · exact all_chunk hr7 u (by omega) (by omega)
  by_cases h8 : u < 225
  · exact all_chunk hr8 u (by omega) (by omega)
  by_cases h9 : u < 250
  · exact all_chunk hr9 u (by omega) (by omega)
  by_cases h10 : u < 275
  · exact all_chunk hr10 u (by omega) (by omega)
  by_cases h11 : u < 300
  · exact all_chunk hr11 u (by omega) (by omega)
  by_cases h12 : u < 325
  · exact all_chunk hr12 u (by omega) (by omega)
  by_cases h13 : u < 350
  · exact all_chunk hr13 u (by omega) (by omega)
  by_cases h14 : u < 375
  · exact all_chunk hr14 u (by omega) (by omega)
  by_cases h15 : u < 400
  · exact all_chunk hr15 u (by omega) (by omega)
  by_cases h16 : u < 425
  · exact all_chunk hr16 u (by omega) (by omega)
  by_cases h17 : u < 450
  · exact all_chunk hr17 u (by omega) (by omega)
  by_cases h18 : u < 475
  · exact all_chunk hr18 u (by omega) (by omega)
  exact all_chunk hr19 u (by omega) (by omega)
theorem hn_all : ((List.range Tryz.prog.types.size).all fun e => Tryz.prog.typeName? 2 e != some "errors.errorString" || (match (Tryz.prog.info? e).map (·.desc) with | some (TypeDesc.named _ _) => true | _ => false)) = true := by
  rw [size487, List.all_eq_true]
  intro u hu
  have hlt := List.mem_range.1 hu
  by_cases h0 : u < 25
  · exact all_chunk hn0 u (by omega) (by omega)
  by_cases h1 : u < 50
  · exact all_chunk hn1 u (by omega) (by omega)
  by_cases h2 : u < 75
  · exact all_chunk hn2 u (by omega) (by omega)
  by_cases h3 : u < 100
  · exact all_chunk hn3 u (by omega) (by omega)
  by_cases h4 : u < 125
  · exact all_chunk hn4 u (by omega) (by omega)
  by_cases h5 : u < 150
  · exact all_chunk hn5 u (by omega) (by omega)
  by_cases h6 : u < 175
  · exact all_chunk hn6 u (by omega) (by omega)
  by_cases h7 : u < 200
  · exact all_chunk hn7 u (by omega) (by omega)
  by_cases h8 : u < 225
  · exact all_chunk hn8 u (by omega) (by omega)
  by_cases h9 : u < 250
  · exact all_chunk hn9 u (by omega) (by omega)
  by_cases h10 : u < 275
  · exact all_chunk hn10 u (by omega) (by omega)
  by_cases h11 : u < 300
  · exact all_chunk hn11 u (by omega) (by omega)
  by_cases h12 : u < 325
  · exact all_chunk hn12 u (by omega) (by omega)
  by_cases h13 : u < 350
  · exact all_chunk hn13 u (by omega) (by omega)
  by_cases h14 : u < 375
  · exact all_chunk hn14 u (by omega) (by omega)
  by_cases h15 : u < 400
  · exact all_chunk hn15 u (by omega) (by omega)
  by_cases h16 : u < 425
  · exact all_chunk hn16 u (by omega) (by omega)
  by_cases h17 : u < 450
  · exact all_chunk hn17 u (by omega) (by omega)
  by_cases h18 : u < 475
  · exact all_chunk hn18 u (by omega) (by omega)
  exact all_chunk hn19 u (by omega) (by omega)
set_option maxRecDepth 100000 in
theorem row403 (u : TypeId) (h : Tryz.prog.typeName? 3 u = some "*errors.errorString") : u = 403 :=
  typeName_ptr_named (nm := "errors.errorString") (by rw [star]; exact hr_all) hn_all (by decide) u (by rw [star]; exact h)
end Go.Proofs.YtbnmgopobmiadaaGreatDoor
