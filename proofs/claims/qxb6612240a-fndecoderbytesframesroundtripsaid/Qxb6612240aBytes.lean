/-
  append from any byte slice; (*decoder).uint32 and (*decoder).bytes walked.
-/
import Derived.Test.Qxb6612240aTake
namespace Go.Proofs.Qxb6612240a
open Go Go.RowKit
set_option linter.unusedVariables false

theorem info5 : (Try.prog.info? 5).map (fun i => (i.zero, i.size, i.bytes)) = some (some (.int .u8 0), 1, 1) := by kernel_rfl

/-- 'append(v, xs...)' of bytes: v the call's own, xs nil or not. -/
theorem run_append_src (w : World) (base ty : Nat) (v : Value) (n : Nat) (xs : List Value) (hown : w.ownsRow base 5 1 v n xs) (a : Option Addr) (c : Nat) (zs : List Int) (hnil : a = none → c = 0 ∧ zs = []) (B : Nat) (hB : BRow B w a zs)
    (hb : n + zs.length ≤ 140737488355328) (hbase : base ≤ w.heap.size) :
    ∃ v' w', (Builtin.append_ #[22, 22] ty #[v, .slice a zs.length c]).run Try.prog w = .ok v' w' ∧ w'.ownsRow base 5 1 v' (n + zs.length) (xs ++ zs.map (Value.int .u8)) ∧ w.grownBy w' v.ownBlock ∧ (v' = .slice none 0 0 ↔ v = .slice none 0 0 ∧ zs.length = 0) := by
  obtain ⟨i0, hi, hz0, hz1, hz2⟩ := info_parts info5
  cases a with
  | none =>
    obtain ⟨rfl, rfl⟩ := hnil rfl
    exact ⟨v, w, run_append_owned_none (P := Try.prog) (w := w) base 22 ty 5 i0 1 Try.underlying22 hi v n xs hown, by simpa using hown, ⟨rfl, rfl, rfl, Nat.le_refl _, fun _ _ _ => rfl⟩, by simp⟩
  | some ad =>
    exact run_append_own (P := Try.prog) w base 22 ty 5 i0 (.int .u8 0) 1 1 Try.underlying22 hi hz0 hz1 hz2 rfl (by decide) v n xs hown ad zs.length c (zs.map (Value.int .u8)) (by simp) (fun j u hj => by
      rw [List.getElem?_map, Option.map_eq_some_iff] at hj
      obtain ⟨z, hz, rfl⟩ := hj
      have hlt : j < zs.length := (List.getElem?_eq_some_iff.1 hz).1
      obtain ⟨b, off, e, _, hc⟩ := hB j hlt
      obtain rfl := Option.some.inj e
      rw [Go.WideShapes.add_plain, hc j hlt, List.getD_eq_getElem?_getD, hz]
      rfl) (ints_oneCell .u8 zs) (by unfold maxLen; omega) (by omega) hbase

/-- .. at the operation. -/
theorem wpList_append_src {w : World} {ops : Array Oper} {rest : List Oper} {o : Oper} {act : Act} {Q : Exit → Act → World → Prop} (hgd : o.guard = none) (s x : Operand)
    (ho : o.op = .call { callee := .builtin .append, args := #[s, x], argTypes := #[22, 22] })
    (base : Nat) (v : Value) (n : Nat) (xs : List Value) (hs : act.eval s = v) (hown : w.ownsRow base 5 1 v n xs) (a : Option Addr) (c : Nat) (zs : List Int) (hx : act.eval x = .slice a zs.length c) (hnil : a = none → c = 0 ∧ zs = []) (B : Nat) (hB : BRow B w a zs)
    (hb : n + zs.length ≤ 140737488355328) (hbase : base ≤ w.heap.size)
    (h : ∀ v' w', w'.ownsRow base 5 1 v' (n + zs.length) (xs ++ zs.map (Value.int .u8)) → w.grownBy w' v.ownBlock → (v' = .slice none 0 0 ↔ v = .slice none 0 0 ∧ zs.length = 0) → wpList Try.prog ops Q rest (act.put o.dst v') w') :
    wpList Try.prog ops Q (o :: rest) act w := by
  refine wpList_plain hgd fun K hK => ?_
  obtain ⟨v', w', hr, h2, h3, h4⟩ := run_append_src w base o.type v n xs hown a c zs hnil B hB hb hbase
  unfold Oper.wp execOp
  simp only [ho, resolve, invoke, builtin, Sem.run_bind, Sem.run_pure, Result.andThen_ok, List.map_toArray, List.map_cons, List.map_nil, hs, hx, hr]
  exact hK _ _ (h v' w' h2 h3 h4)

/-- What the call owns reads as a byte row. -/
theorem brow_of_own {w : World} {base n : Nat} {v : Value} {zs : List Int} (h : w.ownsRow base 5 1 v n (zs.map (Value.int .u8))) :
    n = zs.length ∧ ∃ a cap, v = .slice a zs.length cap ∧ zs.length ≤ cap ∧ cap ≤ maxLen ∧ BRow w.heap.size w a zs ∧ (a = none → v = .slice none 0 0) := by
  have hn : n = zs.length := by have := h.1; simpa using this.symm
  subst hn
  refine ⟨rfl, ?_⟩
  rcases h.2 with ⟨hv, h0⟩ | ⟨g, cap, cur, hv, hg, hh, hnc, hcm, hcs, htk⟩
  · exact ⟨none, 0, by rw [h0]; exact hv, by omega, by unfold maxLen; omega, fun k hk => by omega, fun _ => hv⟩
  · refine ⟨some ⟨g, 0, none⟩, cap, hv, hnc, hcm, fun k hk => ⟨g, 0, rfl, ?_, fun j hj => ?_⟩, fun e => by cases e⟩
    · exact (Array.getElem?_eq_some_iff.1 hh).1
    · rw [Nat.zero_add]
      have e1 := (hv ▸ h).cellAt j (by simpa using hj)
      rw [e1, List.getElem?_map, List.getElem?_eq_getElem hj, List.getD_eq_getElem?_getD, List.getElem?_eq_getElem hj]
      rfl

theorem Dec.below {w w' : World} {D : Nat} {zs : List Int} (h : Dec w D zs) (hb : Below w.heap.size w w') : Dec w' D zs := by
  obtain ⟨ad, cap, h0, h1, hf, hl, hc, hB, hD⟩ := h
  exact ⟨ad, cap, by rw [hb.cell (p := ⟨D, 0, none⟩) hD]; exact h0, by rw [hb.cell (p := ⟨D, 1, none⟩) hD]; exact h1, by rw [hb.frozen (p := ⟨D, 0, none⟩) hD]; exact hf, hl, hc, hB.below (hb.mono (by omega)), Nat.lt_of_lt_of_le hD hb.size⟩

theorem Dec.lt {w : World} {D : Nat} {zs : List Int} (h : Dec w D zs) : D < w.heap.size := by
  obtain ⟨ad, cap, h0, h1, hf, hl, hc, hB, hD⟩ := h
  exact hD

theorem grown_below {w w' : World} (h : Below w.heap.size w w') (row : Option Nat) : w.grownBy w' row := ⟨h.os, h.tape, h.output, h.size, fun k hk _ => h.block k hk⟩
theorem below_grown {w w' : World} (h : w.grownBy w' none) : Below w.heap.size w w' := ⟨h.os, h.tape, h.output, h.size, fun k hk => h.block k hk (by simp)⟩

set_option maxHeartbeats 400000 in
theorem uint32_dec (D : Nat) (zs : List Int) (r : Int) (w : World) (h : Hid (Dec w D zs)) (h4 : 4 ≤ zs.length) (hw : Hid (∀ z ∈ zs, (Lit.int .u8 z).wf = true)) (hr : Hid (Lib.beZ (zs.take 4) = r)) :
    Calls Try.prog 35 #[.pointer (some ⟨D, 0, none⟩)] w fun e w' => e = .returned (.int .u32 r) ∧ Hid (Dec w' D (zs.drop 4)) ∧ w.grownBy w' (some D) := by
  have hc := take_dec D zs 4 w h.out h4
  go_enter Try.func35, Try.ntmps35
  go_wp2_with fail
  refine hc.mono ?_
  rintro e w1 ⟨ad, cap, rfl, hB, hD, hg⟩
  have HB : Hid (BRow D w1 (some ad) (zs.take 4)) := hB
  have HD : Hid (Dec w1 D (zs.drop 4)) := hD
  clear hB hD hc
  have hnn : ∀ w' : World, (binOp .eql 22 (.slice (some ad) 4 cap) (.slice none 0 0)).run Try.prog w' = .ok (.bool false) w' := fun w' => Lib.run_eql_slice_nil w' 22 5 (some ad) 4 cap 0 0 Try.underlying22
  go_wp2_with fail
  refine (be32_any ad 4 cap (zs.take 4) _ (by omega) (by rw [List.length_take]; omega) (fun i hi => ?_) (fun z hz => hw.out z (List.mem_of_mem_take hz))).mono ?_
  · obtain ⟨b, off, e, _, hcl⟩ := HB.out i hi
    obtain rfl := Option.some.inj e
    rw [Go.WideShapes.add_plain]
    exact hcl i hi
  rintro e w2 ⟨rfl, hb2⟩
  rw [List.take_take, Nat.min_self, hr.out]
  go_wp2_with fail
  go_ret
  exact ⟨rfl, HD.out.below hb2, hg.trans (grown_below hb2 _)⟩

/-- What a read of n bytes hands back: a slice of its own that holds ys, nil just where n is 0. -/
def Got (n lo : Nat) (w' : World) (ys : List Int) (e : Ending) : Prop := ∃ a cap, e = .returned (.slice a n cap) ∧ a.isNone = (n == 0) ∧ BRow w'.heap.size w' a ys ∧ ∀ b off, a = some ⟨b, off, none⟩ → lo ≤ b

theorem got_of {n base lo : Nat} (hlo : lo ≤ base) {w' : World} {ys : List Int} {v : Value} (hl : ys.length = n) (hown : w'.ownsRow base 5 1 v (0 + ys.length) ([] ++ ys.map (Value.int .u8))) (hnil : v = .slice none 0 0 ↔ True ∧ ys.length = 0) : Got n lo w' ys (.returned v) := by
  rw [List.nil_append] at hown
  obtain ⟨_, a, cap, hv, _, _, hB, hn⟩ := brow_of_own hown
  refine ⟨a, cap, by rw [hv, hl], ?_, hB, fun b off e => ?_⟩
  rotate_left
  · have := (hown.lt b (by rw [hv, e]; rfl)).1
    omega
  cases a with
  | none =>
    have := (hnil.1 (hn rfl)).2
    rw [hl] at this
    simp [this]
  | some ad =>
    have : n ≠ 0 := fun e => by
      have := hnil.2 ⟨trivial, by omega⟩
      rw [hv] at this
      cases this
    simp [this]

set_option maxHeartbeats 400000 in
theorem bytes_dec (D : Nat) (zs ys : List Int) (n : Nat) (w : World) (h : Hid (Dec w D zs)) (h4 : 4 + n ≤ zs.length) (hn : n ≤ 2000000) (hw : Hid (∀ z ∈ zs, (Lit.int .u8 z).wf = true)) (hbe : Hid (Lib.beZ (zs.take 4) = n)) (hys : Hid ((zs.drop 4).take n = ys)) :
    Calls Try.prog 27 #[.pointer (some ⟨D, 0, none⟩)] w fun e w' => Got n (D + 1) w' ys e ∧ Hid (Dec w' D (zs.drop (4 + n))) ∧ w.grownBy w' (some D) := by
  have hc := uint32_dec D zs n w h (by omega) hw hbe
  go_enter Try.func27, Try.ntmps27
  go_wp2_with fail
  refine hc.mono ?_
  rintro e w1 ⟨rfl, hD1, hg1⟩
  clear hc
  go_wp2_with fail
  have hc := take_dec D (zs.drop 4) n _ hD1.out (by rw [List.length_drop]; omega)
  refine hc.mono ?_
  rintro e w2 ⟨ad, cap, rfl, hB2, hD2, hg2⟩
  clear hc
  have Hl : Hid (ys.length = n) := by show _ = _; rw [← hys.out, List.length_take, List.length_drop]; omega
  rw [List.drop_drop] at hD2
  rw [hys.out] at hB2
  have HB2 : Hid (BRow D w2 (some ad) ys) := hB2
  have HD2 : Hid (Dec w2 D (zs.drop (4 + n))) := hD2
  clear hB2 hD2
  go_wp2_with (at_builtin; refine wpList_append_src rfl _ _ rfl w2.heap.size (.slice none 0 0) 0 [] rfl (World.ownsRow_nil _ _ _ _) (some ad) cap ys (by rw [Hl.out]; rfl) (fun e => by cases e) D HB2.out (by rw [Hl.out]; omega) (Nat.le_refl _) ?_; intro v3 w3 hown3 hgrow3 hnil3)
  go_ret
  have hb3 := below_grown hgrow3
  exact ⟨got_of (show D + 1 ≤ w2.heap.size from HD2.out.lt) Hl.out hown3 hnil3, HD2.out.below hb3, (hg1.trans hg2).trans (grown_below hb3 _)⟩

set_option maxHeartbeats 400000 in
theorem zzbytes_dec (D : Nat) (zs ys : List Int) (n : Nat) (w : World) (h : Hid (Dec w D zs)) (h4 : 4 + n ≤ zs.length) (hn : n ≤ 2000000) (hw : Hid (∀ z ∈ zs, (Lit.int .u8 z).wf = true)) (hbe : Hid (Lib.beZ (zs.take 4) = n)) (hys : Hid ((zs.drop 4).take n = ys)) :
    Calls Try.prog 9 #[.pointer (some ⟨D, 0, none⟩)] w fun e w' => Got n (D + 1) w' ys e ∧ Hid (Dec w' D (zs.drop (4 + n))) ∧ w.grownBy w' (some D) := by
  have hc := bytes_dec D zs ys n w h h4 hn hw hbe hys
  go_enter Try.func9, Try.ntmps9
  go_wp2_with fail
  refine hc.mono ?_
  rintro e w1 ⟨⟨a, cap, rfl, ha, hB, hlo⟩, hD1, hg1⟩
  have HG : Hid (Got n (D + 1) w1 ys (.returned (.slice a n cap))) := ⟨a, cap, rfl, ha, hB, hlo⟩
  clear hc ha hB hlo
  go_wp2_with fail
  go_ret
  exact ⟨HG, hD1, hg1⟩
end Go.Proofs.Qxb6612240a
