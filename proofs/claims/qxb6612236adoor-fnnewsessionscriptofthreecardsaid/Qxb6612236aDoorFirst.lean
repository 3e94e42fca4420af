/-
  Rows.FnNewSessionIsFirstFreeNameCardSaid proved: the row's step over the walk of Law1, then the tied card.
-/
import Derived.Test.Qxb6612236aDoorLaw1
import Derived.Test.Qxb6612236aDoorTie
import Derived.Test.Qxb6612236aDoorCards
import Derived.ProofKit
import Derived.LaidMore
import Derived.OpenShut
import Derived.ShutString
import Derived.ChangeOld
import Derived.SevenTiedAt
namespace Go.Proofs.Qxb6612236aDoor
open Go.ChangeShapes Go.WideShapes Go.ChangeAt Go.WideMaps Go.WideElems Go.RowKit
open Go.ChangeMaps (open_string shut_string)
set_option linter.unusedVariables false

theorem own : ownKnob Tryd.prog.godebug = none := by kernel_rfl
theorem laidOut : laidOutB Tryd.prog = true := by kernel_rfl
theorem keyed9 : Maps.Keyed Tryd.prog 9 := Maps.string_keyed Tryd.underlying9
theorem zero4 (w : World) : (zeroValue 4).run Tryd.prog w = .ok (.bool false) w := by kernel_rfl

theorem plainElem_bool_inv {H : Type} {P : Program} {e : TypeId} (he : P.underlying e = some .bool) {v : Value} {z : DataW H × List MemPlace} (h : plainElem P e v = some z) : ∃ x, v = .bool x ∧ z = (.lit (.bool x), []) := by
  unfold plainElem at h
  rw [he] at h
  cases v <;> simp at h
  exact ⟨_, rfl, h.symm⟩

/-- 'm[s]' at a map of bools keyed by strings. -/
theorem look_own {H : Type} {w : World} {b n : Nat} {D : DataW H} (h : w.ownsMap Tryd.prog 9 (plainElem Tryd.prog 4) b n D) (t : ByteArray) (ht : t.size ≤ maxLen) :
    (Instr.lookup 22 (.map (some b)) (.string t) false).run Tryd.prog w = .ok (.bool (isT D t.data.toList)) w := by
  obtain ⟨v, ps, hrun, hv⟩ := h.lookup keyed9 Tryd.underlying22 (zero4 w) (plainElem_bool Tryd.underlying4 false) (keyOf_string_mk (s := t) Tryd.underlying9 ht)
  obtain ⟨x, rfl, hx⟩ := plainElem_bool_inv Tryd.underlying4 hv
  simp only [Prod.mk.injEq] at hx
  rw [hrun, isT, hx.1]

theorem owned_below {H : Type} {w w' : World} {b n : Nat} {D : DataW H} (h : w.ownsMap Tryd.prog 9 (plainElem Tryd.prog 4) b n D) (hb : Below w.heap.size w w') : w'.ownsMap Tryd.prog 9 (plainElem Tryd.prog 4) b n D :=
  h.kept (row := none) ⟨hb.os, hb.tape, hb.output, hb.size, fun k hk _ => hb.block k hk⟩ (by simp)

theorem looks_own {H : Type} {w : World} {b n : Nat} {D : DataW H} (h : w.ownsMap Tryd.prog 9 (plainElem Tryd.prog 4) b n D) : Looks w (some b) (isT D) :=
  fun w' t hb ht => look_own (owned_below h hb) t ht
theorem lens_own {H : Type} {w : World} {b n : Nat} {D : DataW H} (h : w.ownsMap Tryd.prog 9 (plainElem Tryd.prog 4) b n D) : Lens w (some b) (Maps.size D) :=
  fun w' ty hb => (owned_below h hb).len Tryd.underlying22 ty
theorem few_own {H : Type} {w : World} {b n : Nat} {D : DataW H} (h : w.ownsMap Tryd.prog 9 (plainElem Tryd.prog 4) b n D) : Few (isT D) (Maps.size D) :=
  fun b' k hk => taken_le (h.tidy keyed9) b' k hk
theorem looks_nil (w : World) : Looks w none (fun _ => false) := fun w' t _ ht => by
  simpa using Maps.look_nil (w := w') false keyed9 Tryd.underlying22 (zero4 w') (keyOf_string_mk (s := t) Tryd.underlying9 ht)
theorem lens_nil (w : World) : Lens w none 0 := fun w' ty _ => Maps.len_nil Tryd.underlying22 ty
theorem few_nil : Few (fun _ => false) 0 := fun _ k hk => by
  rcases Nat.eq_zero_or_pos k with h | h
  · omega
  · have := hk 1 (by omega) h
    cases this

theorem elemAt_plainElem_bool {H : Type} {enc : TypeId × Value → H} {P : Program} {e : TypeId} (he : P.underlying e = some .bool) {W : World} {base : Nat} {sp : Nat → Bool} {held : Bool} {m : Nat} {v : Value} {z : DataW H × List MemPlace}
    (h : elemAt enc P W base sp held m e v = some z) : plainElem P e v = some z := by
  obtain ⟨x, rfl, rfl⟩ := elemAt_bool he h
  exact plainElem_bool he x

/-- The list that both rows bear. -/
def laid3 : List (String × DataW Unit) := Rows.fnNewSessionIsFirstFreeNameRow.laid

theorem door_met (os : Os) (args : Array Value) : laidMetH Tryd.prog laid3 ((World.doorLaid Tryd.prog 24 os).forCall (fun _ _ => 0) ⟨#[], args, []⟩).memory :=
  laidMetH_of_parts3 (fuel := 8) (laidMet_of_run' 8 (by kernel_rfl) (by kernel_rfl)) (by kernel_rfl) (by kernel_rfl)

theorem gPow : Tryd.prog.globalNamed powName = some 0 := by kernel_rfl
theorem tPow : (Tryd.prog.globals[0]?).map (·.type) = some 40 := by kernel_rfl
theorem tabData_is : (Rows.laid_internal_strconv_uint64pow10 : DataW Unit) = Lib.tabData .u64 Lib.pow10Tab := by kernel_rfl

theorem of_laid {W : World} (h : laidMetH Tryd.prog laid3 W) : Lib.TabIs Tryd.prog W powName .u64 Lib.pow10Tab := by
  rw [MakeChecks.laidMetH_plain _ _ _ (by kernel_rfl)] at h
  obtain ⟨ps, ⟨g0, t0, cs0, f0, p0, q0, hg0, ht0, hv0, hd0, ⟨g1, t1, cs1, f1, p1, q1, hg1, ht1, hv1, hd1, ⟨g2, t2, cs2, f2, p2, q2, hg2, ht2, hv2, hd2, _, _⟩, _⟩, _⟩, _, _⟩ := h
  obtain rfl := Option.some.inj (gPow.symm.trans hg2)
  obtain rfl := Option.some.inj (tPow.symm.trans ht2)
  rw [tabData_is] at hd2
  unfold Lib.TabIs
  refine Eq.trans hv2 ?_
  rw [← Lib.cells_of_tab Tryd.underlying40 Tryd.underlying33 (by kernel_rfl) (by kernel_rfl) hd2]

set_option maxRecDepth 100000 in
theorem lifted1 (os : Os) (started : os.Started) (H : Type) (enc : TypeId × Value → H) :
    ReturnsInHanded {} Tryd.checked os 3 .any (fun w args => (Rows.fnNewSessionIsFirstFreeNameSpec.pre enc Tryd.prog Tryd.f3 [] false w args ∧ laidMetH Tryd.prog laid3 w) ∧ sizedMet enc Tryd.prog Tryd.f3 (OpenSpec.ofChange Rows.fnNewSessionIsFirstFreeNameSpec) false w args)
      (Rows.fnNewSessionIsFirstFreeNameSpec.post enc Tryd.prog Tryd.f3 false true false false) := by
  refine returnsInHanded_of_change_and (C := Tryd.checked) (X := fun w _ => laidMetH Tryd.prog laid3 w) (fun _ _ _ hh h => h.of_heap hh) own started (by kernel_rfl) Tryd.func3
    (ChangeSpec.witness_shaped (enc := enc) (C := Tryd.checked) (os := os) (X := fun w _ => laidMetH Tryd.prog laid3 w) false (World.doorLaid Tryd.prog 24 os) #[.string ByteArray.empty, .map none] 8 rfl (World.shaped_of_RefB (by kernel_rfl) (by kernel_rfl)) (by kernel_rfl) (by kernel_rfl) (by kernel_rfl) (door_met os _)) ?_
  intro W base args ds gs before hval0 hW _ hsz hL _
  have hval : ∀ (j : Nat) t v, Tryd.f3.params[j]? = some t → args[j]? = some v → Value.okWide Tryd.prog W .any base t v := hval0
  have hW' := hW
  obtain ⟨p, q, hA0, hV, rfl, hfz, hnd⟩ := hW
  have hA : DataW.TrodAll enc Tryd.prog W 0 (fun _ => true) true Tryd.f3.params.toList args.toList ds p := hA0
  rw [Tryd.params3] at hA hval hsz
  obtain ⟨v0, v1, d0, d1, p0, p1, rfl, rfl, rfl, h0, h1⟩ := trodAll_two hA
  obtain ⟨rfl, rfl⟩ := trodVars_none hV
  obtain ⟨s, rfl, rfl, rfl, ws⟩ := open_string Tryd.underlying9 (hval 0 9 v0 rfl rfl) h0
  have k1 := h1
  have lt1 : ∀ x ∈ p1, x.block < W.heap.size := by obtain ⟨m, hm⟩ := k1; exact DataW.trod_lt m _ _ _ hm
  have htab := of_laid hL
  obtain ⟨a, rfl⟩ := okWide_map Tryd.underlying22 (hval 1 22 v1 rfl rfl)
  obtain ⟨f, sz, hszl, hlook, hlen, hpig⟩ : ∃ f sz, sz ≤ maxLen ∧ Looks W a f ∧ Lens W a sz ∧ Few f sz := by
    obtain ⟨fuel, hf⟩ := h1
    rcases open_map Tryd.underlying22 hf with ⟨hcs, _⟩ | ⟨bm, es, clock, n, rfl, hcs, hb, _, F, hx⟩
    · simp [Value.cells] at hcs
      subst hcs
      exact ⟨_, 0, by unfold maxLen; omega, looks_nil W, lens_nil W, few_nil⟩
    · simp [Value.cells] at hcs
      subst hcs
      have hown := World.ownsMap_of_fit (R := plainElem Tryd.prog 4) hb F (fun x _ z hz => elemAt_plainElem_bool Tryd.underlying4 hz)
      simp only [Prod.mk.injEq] at hx
      refine ⟨_, _, ?_, looks_own hown, lens_own hown, few_own hown⟩
      have hm := sized_map hsz (j := 1) (t := 22) (k := 9) (e := 4) rfl (by rw [hx.1]; rfl) Tryd.underlying22
      rw [show Tryd.checked.prog.bytesOf 9 = 16 by kernel_rfl, show Tryd.checked.prog.bytesOf 4 = 1 by kernel_rfl] at hm
      rw [Maps.size_eq]
      unfold reachBytes at hm
      unfold maxLen
      omega
  clear hA0 hval0 hL
  refine (law1_any s a f sz W ws hszl hlook hlen hpig htab).mono fun e W' ⟨he, bel⟩ => ?_
  subst he
  exact ⟨_, rfl, _, _, _, [], _, [], hW', trodAll_mk1 (shut_bool Tryd.underlying4 _), (trodAll_cons_mk (shut_string Tryd.underlying9 ws) (trodAll_cons_mk (Below.trod laidOut (by kernel_rfl) (of_decide_eq_true (by kernel_rfl)) k1 bel lt1) trodAll_mk0)), rfl, bel.frame _, fun h => by cases h⟩

theorem over1 : Rows.FnNewSessionIsFirstFreeNameSaid :=
  OpenClaim.holds_of_wide 3 Tryd.f3 rfl rfl rfl rfl rfl rfl rfl ⟨rfl, rfl, rfl, rfl, rfl⟩ rfl rfl rfl rfl rfl (by kernel_rfl) Tryd.func3 (by kernel_rfl)
    (of_decide_eq_true (by kernel_rfl)) (by unfold Func.isWrapper; first | (rw [if_pos (by decide +kernel)]; kernel_rfl) | (rw [if_neg (by decide +kernel)]; exact ⟨rfl, rfl⟩))
    (fun os started H enc _ => lifted1 os started H enc)

/-- The statement. -/
theorem firstFree_proved : Rows.FnNewSessionIsFirstFreeNameCardSaid :=
  Claim7.holds_tied_plain_at .later [] [.data, .data, .data] true _ false
    over1 (fun _ h => by cases h) (by kernel_rfl) (fun _ h => by cases h) fnNewSessionIsFirstFreeName_row_tie rfl ⟨rfl, rfl⟩ (by kernel_rfl) rfl
    (fun f fn hf hfn => by
      obtain rfl : f = 3 := Option.some.inj ((show Tryd.prog.funcNamed Rows.fnNewSessionIsFirstFreeNameRow.func = some 3 by kernel_rfl).symm.trans hf) |>.symm
      obtain rfl : fn = Tryd.f3 := (Option.some.inj (Tryd.func3.symm.trans hfn)).symm
      exact ⟨by kernel_rfl, fun j t ht => by
        rw [Tryd.params3] at ht
        have hm : t ∈ [9, 22] := by simpa using Array.mem_of_getElem? ht
        have hall : ([9, 22].all fun u => !Tryd.prog.wantsStandIn u) = true := by kernel_rfl
        exact (show Tryd.prog.wantsStandIn t = false by simpa using List.all_eq_true.1 hall t hm)⟩)
    (by kernel_rfl)
end Go.Proofs.Qxb6612236aDoor
