/- Rat.SetString at a decimal that is not 0: its memory. -/
import Derived.Test.YtbnmgopobmiadaaGreatDoorB33
import Derived.Test.YtbnmgopobmiadaaGreatDoorB26
import Derived.Test.YtbnmgopobmiadaaGreatDoorB10
import Derived.Test.YtbnmgopobmiadaaGreatDoorB40
import Derived.Test.YtbnmgopobmiadaaGreatDoorB42

set_option linter.unusedSimpArgs false
set_option linter.unusedVariables false

namespace Go.Proofs.YtbnmgopobmiadaaGreatDoor
open Go.RowKit

/-- a Rat that is being set, beside a stack -/
structure ZS (w0 : World) (b sk : Nat) (va vb : Value) (X Y : Nat) (w : World) : Prop where
  bl : b < w0.heap.size
  sl : w0.heap.size ≤ sk
  row : Row4 w b (.bool false) va (.bool false) vb
  na : Nv w va X
  nb : Nv w vb Y
  oa : ∀ k, va.ownBlock = some k → w0.heap.size ≤ k
  ob : ∀ k, vb.ownBlock = some k → w0.heap.size ≤ k
  ab : ∀ k, va.ownBlock = some k → vb.ownBlock ≠ some k
  st : Stk w sk 0 (fun k => k = sk)
  sa : va.ownBlock ≠ some sk
  sb : vb.ownBlock ≠ some sk
  ch : Chg (fun k => k = b) w0 w

section
variable {w0 w w' : World} {b sk : Nat} {va vb v : Value} {X Y Z : Nat}
theorem ZS.keepF (h : ZS w0 b sk va vb X Y w) (hc : Chg (fun _ => False) w w') : ZS w0 b sk va vb X Y w' :=
  ⟨h.bl, h.sl, h.row.keep hc (fun h => h), h.na.keep hc (fun _ _ h => h), h.nb.keep hc (fun _ _ h => h), h.oa, h.ob, h.ab, h.st.keep hc (fun _ _ h => h), h.sa, h.sb, h.ch.trans hc (fun _ h => h) (fun _ _ h => h.elim)⟩
theorem ZS.skl (h : ZS w0 b sk va vb X Y w) : sk < w.heap.size := by
  have h1 := h.st.2
  rcases h1 with ⟨_, h1⟩ | ⟨ib, base, c, h1, _⟩
  · exact h1.lt
  · exact h1.lt
theorem ZS.oab (h : ZS w0 b sk va vb X Y w) : va.ownBlock ≠ some b := fun e => by have := h.oa b e; have := h.bl; omega
theorem ZS.obb (h : ZS w0 b sk va vb X Y w) : vb.ownBlock ≠ some b := fun e => by have := h.ob b e; have := h.bl; omega
/-- the numerator is set anew -/
theorem ZS.seta (h : ZS w0 b sk va vb X Y w) (hv : Nv w' v Z) (hc : Chg (fun k => va.ownBlock = some k) w w') (ho : ∀ k, v.ownBlock = some k → va.ownBlock = some k ∨ w.heap.size ≤ k) :
    ZS w0 b sk v vb Z Y (w'.setCell ⟨b, 1, none⟩ v) := by
  have hs := h.ch.size
  have hab : va.ownBlock ≠ some b := fun e => by have := h.oa b e; have := h.bl; omega
  have c1 : Chg (fun k => k = b) w' (w'.setCell ⟨b, 1, none⟩ v) := (Chg.refl (fun k => k = b) w').setCell (a := ⟨b, 1, none⟩) (fun _ => rfl) _
  have o1 : ∀ k, v.ownBlock = some k → w0.heap.size ≤ k := fun k hk => by
    rcases ho k hk with h1 | h1
    · exact h.oa k h1
    · omega
  have hbl := h.bl
  refine ⟨h.bl, h.sl, (h.row.keep hc hab).set1 v, hv.keep c1 (fun k hk e => by have h1 : k = b := e; have := o1 k hk; omega), (h.nb.keep hc (fun k hk e => h.ab k e hk)).keep c1 (fun k hk e => by have h1 : k = b := e; have := h.ob k hk; omega), o1, h.ob, fun k hk e => ?_,
    (h.st.keep hc (fun k hk e => by have h1 : k = sk := hk; subst h1; exact h.sa e)).keep c1 (fun k hk e => by have h1 : k = sk := hk; have h2 : k = b := e; have := h.sl; omega), fun e => ?_, h.sb, ?_⟩
  · rcases ho k hk with h1 | h1
    · exact h.ab k h1 e
    · have := h.nb.lt k e; omega
  · rcases ho sk e with h1 | h1
    · exact h.sa h1
    · have := h.skl; omega
  · refine (h.ch.trans hc (fun k h => h) (fun k hk e => ?_)).trans c1 (fun k h => h) (fun k _ e => e)
    have := h.oa k e; omega
/-- the denominator is set anew -/
theorem ZS.setb (h : ZS w0 b sk va vb X Y w) (hv : Nv w' v Z) (hc : Chg (fun k => vb.ownBlock = some k) w w') (ho : ∀ k, v.ownBlock = some k → vb.ownBlock = some k ∨ w.heap.size ≤ k) :
    ZS w0 b sk va v X Z (w'.setCell ⟨b, 3, none⟩ v) := by
  have hs := h.ch.size
  have hab : vb.ownBlock ≠ some b := fun e => by have := h.ob b e; have := h.bl; omega
  have c1 : Chg (fun k => k = b) w' (w'.setCell ⟨b, 3, none⟩ v) := (Chg.refl (fun k => k = b) w').setCell (a := ⟨b, 3, none⟩) (fun _ => rfl) _
  have o1 : ∀ k, v.ownBlock = some k → w0.heap.size ≤ k := fun k hk => by
    rcases ho k hk with h1 | h1
    · exact h.ob k h1
    · omega
  have hbl := h.bl
  refine ⟨h.bl, h.sl, (h.row.keep hc hab).set3 v, (h.na.keep hc (fun k hk e => h.ab k hk e)).keep c1 (fun k hk e => by have h1 : k = b := e; have := h.oa k hk; omega), hv.keep c1 (fun k hk e => by have h1 : k = b := e; have := o1 k hk; omega), h.oa, o1, fun k hk e => ?_,
    (h.st.keep hc (fun k hk e => by have h1 : k = sk := hk; subst h1; exact h.sb e)).keep c1 (fun k hk e => by have h1 : k = sk := hk; have h2 : k = b := e; have := h.sl; omega), h.sa, fun e => ?_, ?_⟩
  · rcases ho k e with h1 | h1
    · exact h.ab k hk h1
    · have := h.na.lt k hk; omega
  · rcases ho sk e with h1 | h1
    · exact h.sb h1
    · have := h.skl; omega
  · refine (h.ch.trans hc (fun k h => h) (fun k hk e => ?_)).trans c1 (fun k h => h) (fun k _ e => e)
    have := h.ob k e; omega
/-- the denominator, still 0, is set to a number that lies elsewhere -/
theorem ZS.setbN (h : ZS w0 b sk va (.slice none 0 0) X Y w) (hv : Nv w v Z) (ho : ∀ k, v.ownBlock = some k → w0.heap.size ≤ k) (hn : ∀ k, v.ownBlock = some k → va.ownBlock ≠ some k) (hs : v.ownBlock ≠ some sk) :
    ZS w0 b sk va v X Z (w.setCell ⟨b, 3, none⟩ v) := by
  have c1 : Chg (fun k => k = b) w (w.setCell ⟨b, 3, none⟩ v) := (Chg.refl (fun k => k = b) w).setCell (a := ⟨b, 3, none⟩) (fun _ => rfl) _
  have hbl := h.bl
  refine ⟨h.bl, h.sl, h.row.set3 v, h.na.keep c1 (fun k hk e => by have h1 : k = b := e; have := h.oa k hk; omega), hv.keep c1 (fun k hk e => by have h1 : k = b := e; have := ho k hk; omega), h.oa, ho, fun k hk e => hn k e hk,
    h.st.keep c1 (fun k hk e => by have h1 : k = sk := hk; have h2 : k = b := e; have := h.sl; omega), h.sa, hs, h.ch.trans c1 (fun k h => h) (fun k _ e => e)⟩
end

/-- the numerator and the denominator of a decimal, not reduced: N times 10 to the e -/
def decP (N : Nat) (e : Int) : Nat := N * 10 ^ e.toNat
def decQ (e : Int) : Nat := 10 ^ (-e).toNat
/-- what SetString leaves -/
def SetS (b : Nat) (neg : Bool) (P Q : Nat) (w : World) (e : Ending) (w' : World) : Prop :=
  e = .returned (.tuple #[.pointer (some ⟨b, 0, none⟩), .bool true]) ∧ ∃ va vb, Rm w' b neg va (P / Nat.gcd P Q) false vb (Q / Nat.gcd P Q) ∧ Chg (fun k => k = b) w w' ∧ (∀ k, RegR b va vb k → k = b ∨ w.heap.size ≤ k)
/-- the exponent that the digits behind the point give -/
def fexp (s : ByteArray) (i n : Nat) (dot : Option Nat) : Int := if fcount s i n dot < 0 then fcount s i n dot else 0
theorem dpq_le (s : ByteArray) (i n : Nat) (dot : Option Nat) : dpq s i dot n ≤ cntTo s i n := by
  unfold dpq
  cases dot with
  | none => show (-1 : Int) ≤ _; omega
  | some d =>
    show (if d < n then (cntTo s i d : Int) else -1) ≤ _
    split
    · rename_i h
      have := cntTo_mono s i (Nat.le_of_lt h)
      omega
    · omega
theorem fexp_bound {s : ByteArray} {i n : Nat} {dot : Option Nat} (hn : n ≤ 40) : -40 ≤ fexp s i n dot ∧ fexp s i n dot ≤ 0 ∧ -40 ≤ fcount s i n dot ∧ fcount s i n dot ≤ 40 := by
  have h := cntTo_le s i n
  have h2 := dpq_le s i n dot
  unfold fexp fcount
  split <;> split <;> omega
end Go.Proofs.YtbnmgopobmiadaaGreatDoor
