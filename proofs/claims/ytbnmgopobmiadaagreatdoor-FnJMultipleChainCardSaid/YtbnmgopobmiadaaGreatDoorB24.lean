/- Contract of nat.div. -/
import Derived.Test.YtbnmgopobmiadaaGreatDoorB23
import Derived.Test.YtbnmgopobmiadaaGreatDoorB13
import Derived.Test.YtbnmgopobmiadaaGreatDoorB5

set_option linter.unusedSimpArgs false
set_option linter.unusedVariables false

namespace Go.Proofs.YtbnmgopobmiadaaGreatDoor
open Go.RowKit

theorem Div2.mono {z z2 : Value} {T T' : Nat → Prop} {Q R : Nat} {w w' : World} {e : Ending} (h : Div2 z z2 T Q R w e w') (ht : ∀ k, k < w.heap.size → T k → T' k) : Div2 z z2 T' Q R w e w' := by
  obtain ⟨v, v2, h1, h2, h3, h4, h5, h6, h7⟩ := h
  exact ⟨v, v2, h1, h2, h3, h4.mono (fun k hk h => h.imp id (fun h => h.imp id (ht k hk))), h5, h6, h7⟩

/-- q, then r, each by a contract of its own -/
theorem div2_of {z z2 v v2 : Value} {Q R : Nat} {w w1 w2 : World} {e : Ending} (hz : St w z) (hz2 : St w z2) (hzz : Off (fun k => z.ownBlock = some k) z2) (he : e = .returned (.tuple #[v, v2]))
    (hv : Nv w1 v Q) (hc : Chg (fun k => z.ownBlock = some k) w w1) (ho : ∀ k, v.ownBlock = some k → z.ownBlock = some k ∨ w.heap.size ≤ k)
    (hv2 : Nv w2 v2 R) (hc2 : Chg (fun k => z2.ownBlock = some k) w1 w2) (ho2 : ∀ k, v2.ownBlock = some k → z2.ownBlock = some k ∨ w1.heap.size ≤ k) : Div2 z z2 (fun _ => False) Q R w e w2 := by
  have hs := hc.size
  have hoff : Off (fun k => z2.ownBlock = some k) v := fun k hk h => by
    rcases ho k hk with h1 | h1
    · exact hzz k h h1
    · have := hz2.lt k h; omega
  refine ⟨v, v2, he, hv.keep hc2 hoff, hv2, hc.trans hc2 (fun k h => .inl h) (fun k _ h => .inr (.inl h)), ho, fun k hk => (ho2 k hk).imp id (fun h => by omega), fun k hk hk2 => ?_⟩
  rcases ho2 k hk2 with h | h
  · exact hoff k hk h
  · have := hv.lt k hk; omega

set_option maxHeartbeats 4000000 in
set_option maxRecDepth 100000 in
theorem div_one (z z2 x y stk : Value) (U V : Nat) (w : World) (hz : St w z) (hz2 : St w z2) (hx : Nv w x U) (hy : Nv w y V) (hV0 : V ≠ 0) (hV : V < B) (hU : wlen U ≤ 10000)
    (hzz : Off (fun k => z.ownBlock = some k) z2) (h1x : V = 1 → Off (fun k => z.ownBlock = some k) x) :
    Calls Tryz.prog 79 #[z, stk, z2, x, y] w (Div2 z z2 (fun _ => False) (U / V) (U % V) w) := by
  obtain ⟨yb, yc, rfl, y1, y2, y3, y4⟩ := hy.pos hV0
  have hl := wlen_one hV0 hV
  rw [hl] at y1 y4 ⊢
  have cv : w.cell? ⟨yb, 0, none⟩ = some (.int .u64 V) := by
    have := y4 0 (by omega)
    rw [wd, dig_zero, Nat.mod_eq_of_lt hV] at this; exact this
  have hdw := divW z x U V w hz hx (by omega) hV0 hV h1x
  have HZ := Lib.hid (And.intro hz (And.intro hz2 (And.intro hzz (And.intro hV hV0))))
  clear hz hz2 hx hy h1x hzz y3 y4 hl hV0
  go_enter_defers Tryz.func79, Tryz.ntmps79
  go_wp2_with fail
  refine hdw.mono ?_
  rintro e w1 ⟨v, rfl, hv, hc, ho⟩
  obtain ⟨hz, hz2, hzz, hV, hV0⟩ := HZ.out
  have hz21 := hz2.keep hc (fun k hk h => hzz k hk h)
  have hr : U % V < B := Nat.lt_trans (Nat.mod_lt _ (Nat.pos_of_ne_zero hV0)) hV
  have hsw := setWord_any z2 (U % V) w1 hz21 hr
  have HG := Lib.hid (And.intro hv (And.intro hc ho))
  clear hv hc ho hz hz2 hzz hV hV0 hz21 hr hdw cv
  go_wp2_with fail
  refine hsw.mono ?_
  rintro e w2 ⟨v2, rfl, hv2, hc2, ho2⟩
  obtain ⟨hz, hz2, hzz, hV, hV0⟩ := HZ.out
  have HE := Lib.hid (fun e he => div2_of (e := e) (v := v) (v2 := v2) hz hz2 hzz he HG.out.1 HG.out.2.1 HG.out.2.2 hv2 hc2 (fun k hk => (ho2 k hk).imp id (fun h => by omega)))
  clear hz hz2 hzz hV hV0 hv2 hc2 ho2 hsw
  go_wp2
  refine ⟨_, results_tmp2 rfl _ _ _, ?_⟩
  exact HE.out _ rfl

set_option maxHeartbeats 4000000 in
set_option maxRecDepth 100000 in
theorem div_less (z z2 x y stk : Value) (U V : Nat) (w : World) (hz : St w z) (hz2 : St w z2) (hx : Nv w x U) (hy : Nv w y V) (hV2 : 2 ≤ wlen V) (hUV : U < V) (hV : wlen V ≤ 10000)
    (hzz : Off (fun k => z.ownBlock = some k) z2) (hxz : Off (fun k => z2.ownBlock = some k) x) :
    Calls Tryz.prog 79 #[z, stk, z2, x, y] w (Div2 z z2 (fun _ => False) (U / V) (U % V) w) := by
  have hmono := wlen_mono (Nat.le_of_lt hUV)
  have hcmp := cmp_any x y U V w hx hy (by omega) (by omega)
  have hset := fun k => set_any z2 x U (w.drewN k) hz2 hx (by omega) hxz
  rw [Nat.div_eq_of_lt hUV, Nat.mod_eq_of_lt hUV]
  have hcv : cmpN U V = -1 := by unfold cmpN; rw [if_pos hUV]
  rw [hcv] at hcmp
  obtain ⟨ya, yc, rfl⟩ := hy.shape
  obtain ⟨za, zn, zc, rfl⟩ := hz.shape
  have HZ := Lib.hid (And.intro hz (And.intro hz2 hzz))
  clear hz hz2 hx hy hzz hxz hmono hUV hcv
  generalize wlen V = n at *
  have e0 : ((n : Int) == 0) = false := beq_eq_false_iff_ne.2 (by omega)
  have e1 : ((n : Int) == 1) = false := beq_eq_false_iff_ne.2 (by omega)
  have hlt : (-1 : Int) < 0 := by omega
  go_enter_defers Tryz.func79, Tryz.ntmps79
  go_wp2_with fail
  refine hcmp.mono ?_
  rintro e w1 ⟨rfl, nd, rfl⟩
  go_wp2_with fail
  refine (hset nd).mono ?_
  rintro e w2 ⟨v2, rfl, hv2, hc2, ho2⟩
  obtain ⟨hz, hz2, hzz⟩ := HZ.out
  obtain ⟨v, hve, hv, hc, ho⟩ := St.gives_zero hz (w.drewN nd) ⟨nd, rfl⟩
  cases hve
  have HE := Lib.hid (fun e he => div2_of (e := e) (v2 := v2) hz hz2 hzz he hv hc ho hv2 hc2 (fun k hk => (ho2 k hk).imp id (fun h => by omega)))
  clear hz hz2 hzz hv hc ho hv2 hc2 ho2 hset
  go_wp2
  refine ⟨_, results_tmp2 rfl _ _ _, ?_⟩
  exact HE.out _ rfl

set_option maxHeartbeats 4000000 in
set_option maxRecDepth 100000 in
theorem div_stk (z z2 x y : Value) (sb l U V : Nat) (S : Nat → Prop) (w : World) (hz : St w z) (hz2 : St w z2) (hx : Nv w x U) (hy : Nv w y V) (hV2 : 2 ≤ wlen V) (hUV : V ≤ U)
    (hU : wlen U ≤ 10000) (hV : wlen V < 40) (hS : Stk w sb l S) (hSl : ∀ k, S k → k < w.heap.size) (hl : l ≤ 50000) (hG : w.cell? ⟨7, 0, none⟩ = some (.int .i64 40)) (hG7 : ¬ S 7) (hz7 : z2.ownBlock ≠ some 7)
    (hzS : Off S z) (hz2S : Off S z2) (hxS : Off S x) (hyS : Off S y) (hzz : Off (fun k => z.ownBlock = some k) z2) (hxz : Off (fun k => z2.ownBlock = some k) x) (hyz : Off (fun k => z2.ownBlock = some k) y) :
    Calls Tryz.prog 79 #[z, .pointer (some ⟨sb, 0, none⟩), z2, x, y] w (fun e w' => ∃ S', Div2S z z2 S S' (U / V) (U % V) w e w' ∧ Stk w' sb l S' ∧ (∀ k, S' k → (S k ∨ w.heap.size ≤ k) ∧ k < w'.heap.size)) := by
  have hcmp := cmp_any x y U V w hx hy (by omega) (by omega)
  have hdl := fun k => divLarge z z2 x y sb l U V S (w.drewN k) hz hz2 hx hy hV2 hUV hU hV (hS.keep (Chg.to_drewN (S := fun _ => False) _ _) (fun _ _ h => h)) hSl hl hG hG7 hz7 hzS hz2S hxS hyS hzz hxz hyz
  have hge : ¬ cmpN U V < 0 := by unfold cmpN; rw [if_neg (by omega)]; split <;> omega
  obtain ⟨xa, xc, rfl⟩ := hx.shape
  obtain ⟨ya, yc, rfl⟩ := hy.shape
  clear hz hz2 hx hy hzz hxz hyz hzS hz2S hxS hyS hS hSl hG hG7 hz7
  generalize wlen V = n at *
  generalize wlen U = m at *
  generalize cmpN U V = c at *
  have e0 : ((n : Int) == 0) = false := beq_eq_false_iff_ne.2 (by omega)
  have e1 : ((n : Int) == 1) = false := beq_eq_false_iff_ne.2 (by omega)
  go_enter_defers Tryz.func79, Tryz.ntmps79
  go_wp2_with fail
  refine hcmp.mono ?_
  rintro e w1 ⟨rfl, nd, rfl⟩
  have HD := Lib.hid (hdl nd)
  clear hdl hcmp
  go_wp2_with fail
  refine HD.out.mono ?_
  rintro e w2 ⟨S', ⟨v, v2, rfl, ⟨h2, h3, h4, h5, h6, h7⟩, h8, h9⟩, hST⟩
  have HE := Lib.hid (And.intro h2 (And.intro h3 (And.intro h4.undrewN (And.intro h5 (And.intro h6 (And.intro h7 (And.intro h8 (And.intro h9 hST))))))))
  clear h2 h3 h4 h5 h6 h7 h8 h9 hST HD
  go_wp2
  obtain ⟨h2, h3, h4, h5, h6, h7, h8, h9, hST⟩ := HE.out
  exact ⟨_, results_tmp2 rfl _ _ _, S', ⟨v, v2, rfl, ⟨h2, h3, h4, h5, h6, h7⟩, h8, h9⟩, hST⟩

theorem div_big_end {z z2 v v2 : Value} {Q R sb : Nat} {S' : Nat → Prop} {w w1 w2 w3 : World} {e e' : Ending} (hc1 : Chg (fun _ => False) w w1) (hsb : sb = w.heap.size) (he : e = .returned (.tuple #[v, v2]))
    (h : Div2 z z2 (fun k => k = sb) Q R w1 (.returned (.tuple #[v, v2])) w2) (hS' : ∀ k, S' k → (k = sb ∨ w1.heap.size ≤ k)) (hQ : Quiet S' w2 e' w3) : Div2 z z2 (fun _ => False) Q R w e w3 := by
  obtain ⟨a, b, h1, h2, h3, h4, h5, h6, h7⟩ := h
  cases h1
  have hs := hc1.size
  refine ⟨v, v2, he, h2.quiet hQ, h3.quiet hQ, ?_, fun k hk => (h5 k hk).imp id (fun h => by omega), fun k hk => (h6 k hk).imp id (fun h => by omega), h7⟩
  have c2 := hc1.trans h4 (U := fun k => z.ownBlock = some k ∨ z2.ownBlock = some k ∨ w.heap.size ≤ k) (fun k h => h.elim) (fun k hk h => h.imp id (fun h => h.imp id (fun h => by omega)))
  refine (c2.trans hQ.2.1 (U := fun k => z.ownBlock = some k ∨ z2.ownBlock = some k ∨ w.heap.size ≤ k) (fun k h => h) (fun k hk h => ?_)).mono (fun k hk h => h.imp id (fun h => h.imp id (fun h => by omega)))
  rcases hS' k h with h | h
  · exact .inr (.inr (by omega))
  · exact .inr (.inr (by omega))

set_option maxHeartbeats 4000000 in
set_option maxRecDepth 100000 in
theorem div_big (z z2 x y : Value) (U V : Nat) (w : World) (hz : St w z) (hz2 : St w z2) (hx : Nv w x U) (hy : Nv w y V) (hV2 : 2 ≤ wlen V) (hUV : V ≤ U)
    (hU : wlen U ≤ 10000) (hV : wlen V < 40) (hG : w.cell? ⟨7, 0, none⟩ = some (.int .i64 40)) (hz7 : z2.ownBlock ≠ some 7)
    (hzz : Off (fun k => z.ownBlock = some k) z2) (hxz : Off (fun k => z2.ownBlock = some k) x) (hyz : Off (fun k => z2.ownBlock = some k) y) :
    Calls Tryz.prog 79 #[z, .pointer none, z2, x, y] w (Div2 z z2 (fun _ => False) (U / V) (U % V) w) := by
  have hcmp := cmp_any x y U V w hx hy (by omega) (by omega)
  have hge : ¬ cmpN U V < 0 := by unfold cmpN; rw [if_neg (by omega)]; split <;> omega
  have HZ := Lib.hid (And.intro hz (And.intro hz2 (And.intro hx (And.intro hy (And.intro hG (And.intro hz7 (And.intro hzz (And.intro hxz (And.intro hyz (And.intro hUV (And.intro hU (And.intro hV hV2))))))))))))
  obtain ⟨xa, xc, rfl⟩ := hx.shape
  obtain ⟨ya, yc, rfl⟩ := hy.shape
  clear hz hz2 hx hy hzz hxz hyz hG hz7
  generalize hn : wlen V = n at *
  generalize hm : wlen U = m at *
  generalize cmpN U V = c at *
  have e0 : ((n : Int) == 0) = false := beq_eq_false_iff_ne.2 (by omega)
  have e1 : ((n : Int) == 1) = false := beq_eq_false_iff_ne.2 (by omega)
  go_enter_defers Tryz.func79, Tryz.ntmps79
  go_wp2_with fail
  refine hcmp.mono ?_
  rintro e w1 ⟨rfl, nd, rfl⟩
  have hgs := getStack (w.drewN nd)
  clear hcmp
  go_wp2_with fail
  refine hgs.mono ?_
  rintro e w1 ⟨rfl, hS, hc1, hsz⟩
  clear hgs
  have c1 : Chg (fun _ => False) w w1 := hc1.undrewN
  obtain ⟨sb, hsb⟩ : ∃ sb, sb = w.heap.size := ⟨_, rfl⟩
  have hsb' : (w.drewN nd).heap.size = sb := hsb.symm
  rw [hsb'] at hS ⊢
  have hsz1 : w1.heap.size = w.heap.size + 1 := hsz
  obtain ⟨hz, hz2, hx, hy, hG, hz7, hzz, hxz, hyz, hUV, hU', hV', hV2'⟩ := HZ.out
  have hdl := divLarge z z2 (.slice xa m xc) (.slice ya n yc) sb 0 U V (fun k => k = sb) w1 (hz.keep c1 (fun _ _ h => h)) (hz2.keep c1 (fun _ _ h => h)) (hx.keep c1 (fun _ _ h => h)) (hy.keep c1 (fun _ _ h => h)) (by omega) hUV (by omega) (by omega) hS (fun k hk => by omega) (by omega)
    (c1.cell hG (fun h => h)) (fun h => by
      have h7 : w.heap[7]? = none := Array.getElem?_eq_none (by omega)
      simp [World.cell?, h7] at hG) hz7 (fun k hk h => by have := hz.lt k hk; omega) (fun k hk h => by have := hz2.lt k hk; omega) (fun k hk h => by have := hx.lt k hk; omega) (fun k hk h => by have := hy.lt k hk; omega) hzz hxz hyz
  have HC := Lib.hid (And.intro c1 hsb)
  clear hS hc1 hsz hz hz2 hx hy hG hz7 hzz hxz hyz hUV hU' hV' hV2' hsb hsb' c1
  go_wp2_with fail
  refine hdl.mono ?_
  rintro e w2 ⟨S', ⟨v, v2, rfl, h2, _, _⟩, hS', hS2⟩
  have HE := Lib.hid (And.intro h2 (And.intro hS' hS2))
  clear h2 hS' hS2 hdl
  go_wp2
  refine leaves_cons (f := 43) (args := #[.pointer (some ⟨sb, 0, none⟩)]) (by simp) (by simp [go_sem]) ?_
  refine (stack_free_d _ w2 sb 0 S' HE.out.2.1).mono ?_
  rintro e u' w3 ⟨rfl, hQ⟩
  have hfin := fun e he => div_big_end (e := e) HC.out.1 HC.out.2 he ⟨v, v2, rfl, HE.out.1⟩ (fun k hk => (HE.out.2.2 k hk).1) hQ
  obtain rfl := hQ.1
  refine ⟨_, results_tmp2 rfl _ _ _, ?_⟩
  exact hfin _ rfl

theorem div_nil (z z2 x y : Value) (U V : Nat) (w : World) (hz : St w z) (hz2 : St w z2) (hx : Nv w x U) (hy : Nv w y V) (hV0 : V ≠ 0)
    (hU : wlen U ≤ 10000) (hV : wlen V < 40) (hG : w.cell? ⟨7, 0, none⟩ = some (.int .i64 40)) (hz7 : z2.ownBlock ≠ some 7)
    (hzz : Off (fun k => z.ownBlock = some k) z2) (h1x : V = 1 → Off (fun k => z.ownBlock = some k) x) (hxz : Off (fun k => z2.ownBlock = some k) x) (hyz : Off (fun k => z2.ownBlock = some k) y) :
    Calls Tryz.prog 79 #[z, .pointer none, z2, x, y] w (Div2 z z2 (fun _ => False) (U / V) (U % V) w) := by
  by_cases h1 : V < B
  · exact div_one z z2 x y _ U V w hz hz2 hx hy hV0 h1 hU hzz h1x
  · have h2 : 2 ≤ wlen V := by have := le_wlen (X := V) (n := 1) (by rw [Nat.pow_one]; omega); omega
    by_cases hlt : U < V
    · exact div_less z z2 x y _ U V w hz hz2 hx hy h2 hlt (by omega) hzz hxz
    · exact div_big z z2 x y U V w hz hz2 hx hy h2 (by omega) hU hV hG hz7 hzz hxz hyz

theorem div_any_stk (z z2 x y : Value) (sb l U V : Nat) (S : Nat → Prop) (w : World) (hz : St w z) (hz2 : St w z2) (hx : Nv w x U) (hy : Nv w y V) (hV0 : V ≠ 0) (hUV : V ≤ U)
    (hU : wlen U ≤ 10000) (hV : wlen V < 40) (hS : Stk w sb l S) (hSl : ∀ k, S k → k < w.heap.size) (hl : l ≤ 50000) (hG : w.cell? ⟨7, 0, none⟩ = some (.int .i64 40)) (hG7 : ¬ S 7) (hz7 : z2.ownBlock ≠ some 7)
    (hzS : Off S z) (hz2S : Off S z2) (hxS : Off S x) (hyS : Off S y) (hzz : Off (fun k => z.ownBlock = some k) z2) (h1x : V = 1 → Off (fun k => z.ownBlock = some k) x) (hxz : Off (fun k => z2.ownBlock = some k) x) (hyz : Off (fun k => z2.ownBlock = some k) y) :
    Calls Tryz.prog 79 #[z, .pointer (some ⟨sb, 0, none⟩), z2, x, y] w (fun e w' => ∃ S', Div2S z z2 S S' (U / V) (U % V) w e w' ∧ Stk w' sb l S' ∧ (∀ k, S' k → (S k ∨ w.heap.size ≤ k) ∧ k < w'.heap.size)) := by
  by_cases h1 : V < B
  · refine (div_one z z2 x y _ U V w hz hz2 hx hy hV0 h1 hU hzz h1x).mono fun e w' h => ?_
    obtain ⟨v, v2, he, h2, h3, h4, h5, h6, h7⟩ := h
    have hs := h4.size
    refine ⟨S, ⟨v, v2, he, ⟨h2, h3, h4.mono (fun k _ h => h.imp id (fun h => h.imp id (fun h => h.elim))), h5, h6, h7⟩, fun k hk h => ?_, fun k hk h => ?_⟩, hS.keep h4 (fun k hk h => ?_), fun k hk => ⟨.inl hk, by have := hSl k hk; omega⟩⟩
    · rcases h5 k hk with h8 | h8
      · exact hzS k h8 h
      · have := hSl k h; omega
    · rcases h6 k hk with h8 | h8
      · exact hz2S k h8 h
      · have := hSl k h; omega
    · rcases h with h | h | h
      · exact hzS k h hk
      · exact hz2S k h hk
      · exact h
  · have h2 : 2 ≤ wlen V := by have := le_wlen (X := V) (n := 1) (by rw [Nat.pow_one]; omega); omega
    exact div_stk z z2 x y sb l U V S w hz hz2 hx hy h2 hUV hU hV hS hSl hl hG hG7 hz7 hzS hz2S hxS hyS hzz hxz hyz
end Go.Proofs.YtbnmgopobmiadaaGreatDoor
