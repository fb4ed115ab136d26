/- FnJMultipleChain: the row, for every three texts. -/
import Derived.Test.YtbnmgopobmiadaaGreatDoorB70
import Derived.Test.YtbnmgopobmiadaaGreatDoorB67
import Derived.Test.YtbnmgopobmiadaaGreatDoorB72
import Derived.Test.YtbnmgopobmiadaaGreatDoorB74
import Derived.Test.YtbnmgopobmiadaaGreatDoorB77
import Derived.Stop.Joined

set_option linter.unusedSimpArgs false
set_option linter.unusedVariables false

namespace Go.Proofs.YtbnmgopobmiadaaGreatDoor
open Go Go.ChangeShapes Go.WideShapes Go.ChangeAt Go.ChangeMaps Go.RowKit

theorem ownKnobNone : ownKnob Tryz.prog.godebug = none := by kernel_rfl
theorem laidOutIs : laidOutB Tryz.prog = true := by kernel_rfl

theorem door_met (os : Os) (args : Array Value) : laidMetH Tryz.prog Rows.fnJMultipleChainRow.laid ((World.doorLaid Tryz.prog 200 os).forCall (fun _ _ => 0) ⟨#[], args, []⟩).memory :=
  laidMetH_of_parts3 (fuel := 8) (laidMet_of_run' 8 (by kernel_rfl) (by kernel_rfl)) (by kernel_rfl) (by kernel_rfl)

noncomputable def okVar (n : String) : Bool :=
  match Tryz.prog.globalNamed n with
  | none => true
  | some g => match (Tryz.prog.globals[g]?).map (·.type) with
    | none => true
    | some t => Tryz.prog.readableRec t && decide (t < Tryz.prog.types.size)
theorem okVars : (Rows.fnJMultipleChainSpec.vars.all okVar) = true := by kernel_rfl
theorem varsFine : ∀ n ∈ Rows.fnJMultipleChainSpec.vars, ∀ g t, Tryz.prog.globalNamed n = some g → (Tryz.prog.globals[g]?).map (·.type) = some t → Tryz.prog.readableRec t = true ∧ t < Tryz.prog.types.size := by
  intro n hn g t hg ht
  have h := List.all_eq_true.1 okVars n hn
  unfold okVar at h
  rw [hg] at h
  simp only at h
  rw [ht] at h
  simpa using h
theorem trodVars_len {H : Type} {enc : TypeId × Value → H} {P : Program} {W : World} {sp : Nat → Bool} : ∀ {ns : List String} {gs : List (DataW H)} {ps : List MemPlace}, DataW.TrodVars enc P W sp ns gs ps → gs.length = ns.length
  | [], [], _, _ => rfl
  | [], _ :: _, _, h => h.elim
  | _ :: _, [], _, h => h.elim
  | n :: ns, d :: ds, _, h => by
    obtain ⟨g, t, cs, fuel, p, q, h1, h2, h3, h4, h5, rfl⟩ := h
    simp [trodVars_len h5]

theorem below_of_chg {w w' : World} (h : Chg (fun _ => False) w w') : Below w.heap.size w w' := ⟨h.os, h.tape, h.output, h.size, fun k hk => h.keep k hk (fun h => h)⟩

set_option maxRecDepth 100000 in
theorem lifted (os : Os) (started : os.Started) (H : Type) (enc : TypeId × Value → H) :
    ReturnsInHanded {} Tryz.checked os 3 .any (fun w args => (Rows.fnJMultipleChainSpec.pre enc Tryz.prog Tryz.f3 [] false w args ∧ laidMetH Tryz.prog Rows.fnJMultipleChainRow.laid w) ∧ sizedMet enc Tryz.prog Tryz.f3 (OpenSpec.ofChange Rows.fnJMultipleChainSpec) false w args)
      (Rows.fnJMultipleChainSpec.post enc Tryz.prog Tryz.f3 false true false false) := by
  refine returnsInHanded_of_change_and (C := Tryz.checked) (X := fun w _ => laidMetH Tryz.prog Rows.fnJMultipleChainRow.laid w) (fun _ _ _ hh h => h.of_heap hh) ownKnobNone started (by kernel_rfl) Tryz.func3
    (ChangeSpec.witness_shaped (enc := enc) (C := Tryz.checked) (os := os) (X := fun w _ => laidMetH Tryz.prog Rows.fnJMultipleChainRow.laid w) false (World.doorLaid Tryz.prog 200 os) #[.string ⟨#[]⟩, .string ⟨#[]⟩, .string ⟨#[]⟩] 8 rfl (World.shaped_of_RefB (by kernel_rfl) (by kernel_rfl)) (by kernel_rfl) (by kernel_rfl) (by kernel_rfl) (door_met os _)) ?_
  intro W base args ds gs before hval0 hW _ _ hL _
  have hval : ∀ (j : Nat) t v, Tryz.f3.params[j]? = some t → args[j]? = some v → Value.okWide Tryz.prog W .any base t v := hval0
  have hW' := hW
  obtain ⟨p, q, hA0, hV, hpq, hfz, hnd⟩ := hW
  have hA : DataW.TrodAll enc Tryz.prog W 0 (fun _ => true) true Tryz.f3.params.toList args.toList ds p := hA0
  rw [Tryz.params3] at hA hval
  obtain ⟨v0, v1, v2, d0, d1, d2, p0, p1, p2, rfl, rfl, rfl, h0, h1, h2⟩ := trodAll_three hA
  obtain ⟨s0, rfl, rfl, rfl, z0⟩ := open_string Tryz.underlying9 (hval 0 9 v0 rfl rfl) h0
  obtain ⟨s1, rfl, rfl, rfl, z1⟩ := open_string Tryz.underlying9 (hval 1 9 v1 rfl rfl) h1
  obtain ⟨s2, rfl, rfl, rfl, z2⟩ := open_string Tryz.underlying9 (hval 2 9 v2 rfl rfl) h2
  obtain ⟨a, s, hE, _⟩ := env_of_laid (laid5_of hL) (size_of_laid hL)
  refine (law_any s0 s1 s2 403 (.pointer (some a)) W hE (eofEq a) jDecimalOf_any).mono fun e W' ⟨he, hc⟩ => ?_
  subst he
  have hb := below_of_chg hc
  have hlen := trodVars_len hV
  have hq : ∀ x ∈ q, x ∈ before := fun x hx => by rw [hpq]; simp [hx]
  have hlt := hW'.lt
  have hvars : ∀ sp : Nat → Bool, (∀ x ∈ before, sp x.block = true) → DataW.TrodVars enc Tryz.prog W' sp Rows.fnJMultipleChainSpec.vars gs q := fun sp hsp =>
    varsStay laidOutIs hb varsFine hV (fun x hx => hlt x (hq x hx)) (fun x hx => hsp x (hq x hx))
  match gs, hlen, hV, hvars, hW' with
  | [g0, g1, g2, g3, g4, g5], _, hV, hvars, hW' =>
    refine ⟨_, rfl, ?_⟩
    exact post_of_below (ds := [.lit (.string s0.data.toList), .lit (.string s1.data.toList), .lit (.string s2.data.toList)]) (gs := [g0, g1, g2, g3, g4, g5]) (pa := []) (pv := q) hb hW'
      (fun _ _ _ => trodAll_mk1 (shut_bool Tryz.underlying4 true))
      (fun _ _ => trodAll_mk3 (shut_string Tryz.underlying9 z0) (shut_string Tryz.underlying9 z1) (shut_string Tryz.underlying9 z2))
      hvars (by rw [hpq]; simp) false (ok_one (by kernel_rfl) rfl (okWide_bool_mk Tryz.underlying4 true))

theorem fNamed : Tryz.prog.funcNamed "given.example/pub-querent/laws.FnJMultipleChain" = some 3 := by kernel_rfl
theorem fInst : Tryz.f3.isInstance Tryz.prog Rows.fnJMultipleChainRow.origin Rows.fnJMultipleChainRow.targs := of_decide_eq_true (by kernel_rfl)
theorem fWrap : Tryz.f3.isWrapper Tryz.prog Rows.fnJMultipleChainRow.wrapper Rows.fnJMultipleChainRow.mainSum := by
  unfold Func.isWrapper; first | (rw [if_pos (by decide +kernel)]; kernel_rfl) | (rw [if_neg (by decide +kernel)]; exact ⟨rfl, rfl⟩)

theorem fnJMultipleChain_holds : Rows.FnJMultipleChainSaid :=
  OpenClaim.holds_of_wide 3 Tryz.f3 rfl rfl rfl rfl rfl rfl rfl ⟨rfl, rfl, rfl, rfl, rfl⟩ rfl rfl rfl rfl rfl fNamed Tryz.func3 joinedAll fInst fWrap
    (fun os started H enc _ => lifted os started H enc)
end Go.Proofs.YtbnmgopobmiadaaGreatDoor
