/- A reading of variables carried into a grown world; a row's 'post' behind a call that only makes blocks of its own. -/
import Derived.ProofKit

set_option linter.unusedSimpArgs false
set_option linter.unusedVariables false

namespace Go.Proofs.YtbnmgopobmiadaaGreatDoor
open Go Go.ChangeShapes Go.WideShapes Go.RowKit

theorem var_below {P : Program} {W W' : World} {n : String} {cs : Array Value} (hb : Below W.heap.size W W') (h : W.var? P n = some cs) : W'.var? P n = some cs := by
  unfold World.var? at h ⊢
  cases hg : P.globalNamed n with
  | none => rw [hg] at h; cases h
  | some g =>
    rw [hg] at h
    simp only [Option.bind_some] at h ⊢
    by_cases hlt : g < W.heap.size
    · rw [hb.block g hlt]; exact h
    · rw [Array.getElem?_eq_none (by omega)] at h; cases h

theorem varsStay {H : Type} {enc : TypeId × Value → H} {P : Program} (hl : laidOutB P = true) {W W' : World} (hb : Below W.heap.size W W') {sp : Nat → Bool} :
    ∀ {ns : List String} {gs : List (DataW H)} {ps : List MemPlace}, (∀ n ∈ ns, ∀ g t, P.globalNamed n = some g → (P.globals[g]?).map (·.type) = some t → P.readableRec t = true ∧ t < P.types.size) →
      DataW.TrodVars enc P W (fun _ => true) ns gs ps → (∀ p ∈ ps, p.block < W.heap.size) → (∀ p ∈ ps, sp p.block = true) → DataW.TrodVars enc P W' sp ns gs ps
  | [], [], _, _, h, _, _ => h
  | [], _ :: _, _, _, h, _, _ => h
  | _ :: _, [], _, _, h, _, _ => h
  | n :: ns, d :: ds, _, hall, h, hlt, hs => by
    obtain ⟨g, t, cs, fuel, p, q, h1, h2, h3, h4, h5, rfl⟩ := h
    obtain ⟨hr, hrow⟩ := hall n (by simp) g t h1 h2
    refine ⟨g, t, cs, fuel, p, q, h1, h2, var_below hb h3, ?_, ?_, rfl⟩
    · exact DataW.trod_stays (kids_book hl hr) (book_sized hr) (fun h => by cases h) ⟨hrow, book_self t⟩ h4 (fun x hx => hb.same (hlt x (by simp [hx]))) (fun x hx => hs x (by simp [hx]))
    · exact varsStay hl hb (fun m hm => hall m (by simp [hm])) h5 (fun x hx => hlt x (by simp [hx])) (fun x hx => hs x (by simp [hx]))

theorem post_of_below {H : Type} {enc : TypeId × Value → H} {P : Program} {f : Func} {s : ChangeSpec} {fresh handsOn : Bool} {W W' : World} {args : Array Value} {v : Value} {ds gs : List (DataW H)} {before pa pv : List MemPlace} {apart : Bool}
    (hb : Below W.heap.size W W')
    (hW : DataW.Whole enc P f.params.toList s.vars apart W args.toList ds gs before)
    (hres : ∀ (b : Nat) (sp : Nat → Bool) (hd : Bool), DataW.TrodAll enc P W' b sp hd f.resultTypes.toList (v.resultList f.resultTypes.size) (s.fn H (ds ++ gs)).results [])
    (hargs : ∀ sp : Nat → Bool, (∀ p ∈ before, sp p.block = true) → DataW.TrodAll enc P W' 0 sp true f.params.toList args.toList (s.fn H (ds ++ gs)).args pa)
    (hvars : ∀ sp : Nat → Bool, (∀ p ∈ before, sp p.block = true) → DataW.TrodVars enc P W' sp s.vars (s.fn H (ds ++ gs)).vars pv)
    (hps : before = pa ++ pv)
    (again : Bool) (hok : ∀ (j : Nat) (t : TypeId) (r : Value), f.resultTypes[j]? = some t → (v.resultList f.resultTypes.size)[j]? = some r → Value.okWide P W' .any 0 t r) :
    s.post enc P f apart fresh handsOn again W args v W' := by
  have hold : ∀ p ∈ before, (fun b => decide (b < W.heap.size)) p.block = true := fun p hp => by simpa using hW.lt p hp
  have hlt := hW.lt
  refine ⟨ds, gs, before, [], pa, pv, hW, hres _ _ _, hargs _ hold, hvars _ hold, hb.frame _, fun _ => ?_⟩
  obtain ⟨_, _, _, _, _, hz, hn⟩ := hW
  refine ⟨hok, _, _, ([] ++ pa) ++ pv, ⟨[] ++ pa, pv, trodAll_append (hargs _ (fun _ _ => rfl)) (hres _ _ _), hvars _ (fun _ _ => rfl), rfl, ?_, ?_⟩, ?_⟩
  · intro b off hp
    have hp2 : MemPlace.cell b off ∈ before := by rw [hps]; simpa using hp
    exact (hb.frozen (p := ⟨b, off, none⟩) (hlt _ hp2)).trans (hz b off hp2)
  · intro ha
    have := hn ha
    rw [hps] at this
    simpa using this
  · intro p hp _
    rw [hps]
    simpa using hp
end Go.Proofs.YtbnmgopobmiadaaGreatDoor
