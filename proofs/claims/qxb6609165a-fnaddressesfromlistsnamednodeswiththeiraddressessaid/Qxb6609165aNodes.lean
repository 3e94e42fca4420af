/-
  (*Table).nodes walked: the map's keys are the names.
-/
import Derived.Test.Qxb6609165aTabMem
import Derived.Test.Qxb6609165aBounds
import Derived.Maps.OwnSet
import Derived.MapViews
namespace Go.Proofs.Qxb6609165a
open Go Go.RowKit Go.Maps
open Go.ChangeShapes Go.WideShapes Go.WideMaps Go.WideElems
set_option linter.unusedVariables false

theorem keyed9 : Maps.Keyed Try.prog 9 := Maps.string_keyed Try.underlying9

/-- x is the name of a node that one of the first n slots names. -/
def Named (S : Nat → SlotM) (n : Nat) (x : List UInt8) : Prop :=
  ∃ i, i < n ∧ (((S i).ld ≠ ByteArray.empty ∧ x = (S i).ld.data.toList) ∨ ∃ j, j < (S i).fn ∧ x = ((S i).fs j).data.toList)

theorem named_step (S : Nat → SlotM) (n : Nat) (x : List UInt8) : Named S (n + 1) x ↔ Named S n x ∨ ((S n).ld ≠ ByteArray.empty ∧ x = (S n).ld.data.toList) ∨ ∃ j, j < (S n).fn ∧ x = ((S n).fs j).data.toList := by
  constructor
  · rintro ⟨i, hi, h⟩
    rcases Nat.lt_or_eq_of_le (Nat.le_of_lt_succ hi) with h3 | h3
    · exact .inl ⟨i, h3, h⟩
    · subst h3; exact .inr h
  · rintro (⟨i, hi, h⟩ | h)
    · exact ⟨i, by omega, h⟩
    · exact ⟨n, by omega, h⟩

/-- The map's keys are those x of which p holds. -/
def KeysAre (D : DataW Unit) (p : List UInt8 → Prop) : Prop := ∀ x, Maps.has D (.string x) = true ↔ p x

theorem keys_put {D : DataW Unit} (hD : IsMap D) {p : List UInt8 → Prop} (h : KeysAre D p) (y : List UInt8) (d : DataW Unit) : KeysAre (D.put (.string y) d) (fun x => p x ∨ x = y) := fun x => by
  by_cases e : x = y
  · subst e
    rw [has_put_same hD (by trivial)]
    simp
  · rw [has_put_other (by simpa using e), h x]
    simp [e]

theorem KeysAre.congr {D : DataW Unit} {p q : List UInt8 → Prop} (h : KeysAre D p) (e : ∀ x, p x ↔ q x) : KeysAre D q := fun x => (h x).trans (e x)

theorem isEmpty_eq (s : ByteArray) : s.toList.isEmpty = decide (s = ByteArray.empty) := by
  rw [Bool.eq_iff_iff, decide_eq_true_iff, List.isEmpty_iff, Lib.toList_data]
  constructor
  · intro h; exact bytes_ext h
  · intro h; rw [h]; rfl

theorem sumF_mono (S : Nat → SlotM) : ∀ (d i : Nat), sumF S i ≤ sumF S (i + d)
  | 0, i => Nat.le_refl _
  | d + 1, i => Nat.le_trans (sumF_mono S d i) (show sumF S (i + d) ≤ sumF S (i + d) + (S (i + d)).fn from Nat.le_add_right _ _)
theorem sumF_le (S : Nat → SlotM) (i n : Nat) (h : i < n) : sumF S i + (S i).fn ≤ sumF S n := by
  have := sumF_mono S (n - (i + 1)) (i + 1)
  rw [show i + 1 + (n - (i + 1)) = n by omega] at this
  exact this

theorem slotcell {wo w1 : World} {v0 v1 v2 v3 v4 : Value} {M : Nat} (hg : (wo.alloc (.cells #[v0, v1, v2, v3, v4] 60)).grownBy w1 (some M)) (hM : M < wo.heap.size) : w1.cell? ⟨wo.heap.size, 3, none⟩ = some v3 := by
  rw [World.cell?_of_block (w := wo.alloc (.cells #[v0, v1, v2, v3, v4] 60)) (a := ⟨wo.heap.size, 3, none⟩) (hg.block _ (by simp) (by simp; omega)), World.cell?_alloc_new]
  rfl

theorem fs_step (p : Prop) (f : Nat → ByteArray) (m : Nat) (x : List UInt8) : ((p ∨ ∃ j, j < m ∧ x = (f j).data.toList) ∨ x = (f m).data.toList) ↔ (p ∨ ∃ j, j < m + 1 ∧ x = (f j).data.toList) := by
  constructor
  · rintro ((h | ⟨j, hj, h⟩) | h)
    · exact .inl h
    · exact .inr ⟨j, by omega, h⟩
    · exact .inr ⟨m, by omega, h⟩
  · rintro (h | ⟨j, hj, h⟩)
    · exact .inl (.inl h)
    · rcases Nat.lt_or_eq_of_le (Nat.le_of_lt_succ hj) with h3 | h3
      · exact .inl (.inr ⟨j, h3, h⟩)
      · subst h3; exact .inr h

set_option maxRecDepth 100000 in
set_option maxHeartbeats 4000000 in
theorem nodes_any (T n : Nat) (S : Nat → SlotM) (w : World) (hT : Hid (TabAt w T n S)) (B : Nat) (hB : B ≤ w.heap.size) (hF : Hid (∀ i, i < n → StrRow B w (S i).fa (S i).fn (S i).fs ∧ (S i).ld.size ≤ maxLen ∧ ∀ j, j < (S i).fn → ((S i).fs j).size ≤ maxLen))
    (hn : n + sumF S n ≤ 1048576) :
    Calls Try.prog 31 #[.pointer (some ⟨T, 0, none⟩)] w fun e w' => ∃ (b k : Nat) (D : DataW Unit), e = .returned (.map (some b)) ∧ k ≤ 1048576 ∧ w'.ownsMap Try.prog 9 unitElem b k D ∧ Hid (KeysAre D (Named S n)) ∧ Below w.heap.size w w' := by
  obtain ⟨hTl, a', hc2, hMade⟩ := hT.out
  have HM : Hid (∀ k, k < n → ∃ g, a' = some ⟨g, 0, none⟩ ∧ Made w g n S n) := hMade
  clear hMade
  have hmm := @run_makeMap Try.prog
  have hown0 := World.ownsMap_made w Try.prog 9 (unitElem (H := Unit))
  have hbel0 : Below w.heap.size w (w.alloc (.map #[] 0)) := (Below.refl _ _).alloc (Nat.le_refl _) _
  have hc2' : (w.alloc (.map #[] 0)).cell? ⟨T, 2, none⟩ = some (.slice a' n n) := by rw [hbel0.cell (p := ⟨T, 2, none⟩) hTl]; exact hc2
  go_enter Try.func31, Try.ntmps31
  go_wp2
  clear hmm hc2 hc2'
  go_loopw [14] (fun i wr => ∃ (j k : Nat) (D : DataW Unit), j ≤ n ∧ i = .int .i64 j ∧ k ≤ j + sumF S j ∧ wr.ownsMap Try.prog 9 unitElem w.heap.size k D ∧ Hid (KeysAre D (Named S j)) ∧ Below w.heap.size w wr) (fun i _ => n - (intOf i).toNat)
  case atStart => exact ⟨0, 0, _, Nat.zero_le _, rfl, Nat.zero_le _, hown0, fun x => by simp [Named, Maps.has], hbel0⟩
  case round =>
    clear hown0 hbel0
    obtain ⟨i, k, D, hi, rfl, hk, hown, hkeys, hbel⟩ := hrel
    generalize wr = wo at *
    by_cases hlt : i < n
    · obtain ⟨g, rfl, hMw⟩ := HM.out i hlt
      have hM := hMw.below hbel hMw.room.lt
      have r0 := hM.id i hlt
      have r1 := hM.ld i hlt
      have r2 := hM.ep i hlt
      have r3 := hM.fs i hlt
      obtain ⟨na, nn, nc, r4⟩ := hM.nr i hlt
      clear hM hMw
      have hsum : Hid (sumF S (i + 1) = sumF S i + (S i).fn) := rfl
      have hbd := sumF_le S i n hlt
      have hMlt := hown.lt
      have hbelX : Below w.heap.size w (wo.alloc (.cells #[.int .i64 (S i).id, .string (S i).ld, .int .u64 (S i).ep, .slice (S i).fa (S i).fn (S i).fc, .slice na nn nc] 60)) := hbel.alloc hbel.size _
      have hownX := hown.alloc (.cells #[.int .i64 (S i).id, .string (S i).ld, .int .u64 (S i).ep, .slice (S i).fa (S i).fn (S i).fc, .slice na nn nc] 60)
      have hkey : keyOf Try.prog 9 (.string (S i).ld) = some (.string (S i).ld.data.toList) := keyOf_string_mk (s := (S i).ld) Try.underlying9 (hF.out i hlt).2.1
      by_cases hemp : (S i).ld = ByteArray.empty
      · have hie : (S i).ld.toList.isEmpty = true := by rw [isEmpty_eq]; simpa using hemp
        have HK0 : Hid (KeysAre D (fun x => Named S i x ∨ ((S i).ld ≠ ByteArray.empty ∧ x = (S i).ld.data.toList))) := KeysAre.congr hkeys.out (fun x => by simp [hemp])
        clear hemp
        go_wp2_with fail
        clear r0 r1 r2 r3 r4 hie hkey
        go_loopw [28] (fun j wr => ∃ (m k' : Nat) (D' : DataW Unit), m ≤ (S i).fn ∧ j = .int .i64 m ∧ k' ≤ k + m ∧ wr.ownsMap Try.prog 9 unitElem w.heap.size k' D' ∧ Hid (KeysAre D' (fun x => (Named S i x ∨ ((S i).ld ≠ ByteArray.empty ∧ x = (S i).ld.data.toList)) ∨ ∃ j, j < m ∧ x = ((S i).fs j).data.toList)) ∧ Below w.heap.size w wr) (fun j _ => (S i).fn - (intOf j).toNat)
        case atStart => exact ⟨0, k, D, Nat.zero_le _, rfl, by omega, hownX, KeysAre.congr HK0.out (fun x => by simp), hbelX⟩
        case round =>
          obtain ⟨m, k2, D2, hm, rfl, hk2, hown2, hkeys2, hbel2⟩ := hrel
          by_cases hlt2 : m < (S i).fn
          · obtain ⟨fb, fo, hfa, hfb, hfc⟩ := (hF.out i hlt).1 m hlt2
            have hcm := hfc m hlt2
            rw [← hbel2.cell (p := ⟨fb, fo + m, none⟩) (Nat.lt_of_lt_of_le hfb hB)] at hcm
            have hsz := (hF.out i hlt).2.2 m hlt2
            have HK : Hid (KeysAre (D2.put (.string ((S i).fs m).data.toList) (.agg [])) (fun x => (Named S i x ∨ ((S i).ld ≠ ByteArray.empty ∧ x = (S i).ld.data.toList)) ∨ ∃ j, j < m + 1 ∧ x = ((S i).fs j).data.toList)) := KeysAre.congr (keys_put hown2.isMap hkeys2.out _ _) (fun x => fs_step _ _ _ _)
            have HF : Hid ((S i).fa = some ⟨fb, fo, none⟩) := hfa
            clear hfc
            rw [hfa]
            clear hfa
            generalize (S i).fs m = fm at *
            have hkey2 : keyOf Try.prog 9 (.string fm) = some (.string fm.data.toList) := keyOf_string_mk (s := fm) Try.underlying9 hsz
            go_wp2_with (at_mapUpdate; refine wpList_mapUpdate_own _ rfl _ _ _ 72 rfl 9 73 keyed9 Try.underlying72 _ w.heap.size k2 _ rfl hown2 (by unfold maxLen; omega) _ _ _ rfl rfl hkey2 _ [] unitElem_mk ?_; intro w3 hown3 hgrow3)
            go_roundw
            case rel => exact ⟨m + 1, k2 + 1, _, by omega, by go_num, by omega, hown3, HK, hbel2.grown hgrow3 hbel2.size (fun j hj => by cases hj; exact Nat.le_refl _)⟩
            case measure => simp [intOf]; omega
          · have e : m = (S i).fn := by omega
            subst e
            go_wp2_with fail
            go_roundw
            case rel => exact ⟨i + 1, k2, D2, by omega, by go_num, by rw [hsum.out]; omega, hown2, KeysAre.congr hkeys2.out (fun x => by rw [named_step]; exact or_assoc), hbel2⟩
            case measure => simp [intOf]; omega
      · have hie : (S i).ld.toList.isEmpty = false := by rw [isEmpty_eq]; simpa using hemp
        have HK0 : Hid (KeysAre (D.put (.string (S i).ld.data.toList) (.agg [])) (fun x => Named S i x ∨ ((S i).ld ≠ ByteArray.empty ∧ x = (S i).ld.data.toList))) := KeysAre.congr (keys_put hownX.isMap hkeys.out _ _) (fun x => by simp [hemp])
        clear hemp
        go_wp2_with (at_mapUpdate; refine wpList_mapUpdate_own _ rfl _ _ _ 72 rfl 9 73 keyed9 Try.underlying72 _ w.heap.size k _ rfl hownX (by unfold maxLen; omega) _ _ _ rfl rfl hkey _ [] unitElem_mk ?_; intro w1 hown1 hgrow1; have hc3 := slotcell hgrow1 hMlt)
        have hbel1 := hbelX.grown hgrow1 hbelX.size (fun j hj => by cases hj; exact Nat.le_refl _)
        clear r0 r1 r2 r3 r4 hie hkey hc3 hgrow1
        go_loopw [28] (fun j wr => ∃ (m k' : Nat) (D' : DataW Unit), m ≤ (S i).fn ∧ j = .int .i64 m ∧ k' ≤ (k + 1) + m ∧ wr.ownsMap Try.prog 9 unitElem w.heap.size k' D' ∧ Hid (KeysAre D' (fun x => (Named S i x ∨ ((S i).ld ≠ ByteArray.empty ∧ x = (S i).ld.data.toList)) ∨ ∃ j, j < m ∧ x = ((S i).fs j).data.toList)) ∧ Below w.heap.size w wr) (fun j _ => (S i).fn - (intOf j).toNat)
        case atStart => exact ⟨0, (k + 1), _, Nat.zero_le _, rfl, by omega, hown1, KeysAre.congr HK0.out (fun x => by simp), hbel1⟩
        case round =>
          obtain ⟨m, k2, D2, hm, rfl, hk2, hown2, hkeys2, hbel2⟩ := hrel
          by_cases hlt2 : m < (S i).fn
          · obtain ⟨fb, fo, hfa, hfb, hfc⟩ := (hF.out i hlt).1 m hlt2
            have hcm := hfc m hlt2
            rw [← hbel2.cell (p := ⟨fb, fo + m, none⟩) (Nat.lt_of_lt_of_le hfb hB)] at hcm
            have hsz := (hF.out i hlt).2.2 m hlt2
            have HK : Hid (KeysAre (D2.put (.string ((S i).fs m).data.toList) (.agg [])) (fun x => (Named S i x ∨ ((S i).ld ≠ ByteArray.empty ∧ x = (S i).ld.data.toList)) ∨ ∃ j, j < m + 1 ∧ x = ((S i).fs j).data.toList)) := KeysAre.congr (keys_put hown2.isMap hkeys2.out _ _) (fun x => fs_step _ _ _ _)
            have HF : Hid ((S i).fa = some ⟨fb, fo, none⟩) := hfa
            clear hfc
            rw [hfa]
            clear hfa
            generalize (S i).fs m = fm at *
            have hkey2 : keyOf Try.prog 9 (.string fm) = some (.string fm.data.toList) := keyOf_string_mk (s := fm) Try.underlying9 hsz
            go_wp2_with (at_mapUpdate; refine wpList_mapUpdate_own _ rfl _ _ _ 72 rfl 9 73 keyed9 Try.underlying72 _ w.heap.size k2 _ rfl hown2 (by unfold maxLen; omega) _ _ _ rfl rfl hkey2 _ [] unitElem_mk ?_; intro w3 hown3 hgrow3)
            go_roundw
            case rel => exact ⟨m + 1, k2 + 1, _, by omega, by go_num, by omega, hown3, HK, hbel2.grown hgrow3 hbel2.size (fun j hj => by cases hj; exact Nat.le_refl _)⟩
            case measure => simp [intOf]; omega
          · have e : m = (S i).fn := by omega
            subst e
            go_wp2_with fail
            go_roundw
            case rel => exact ⟨i + 1, k2, D2, by omega, by go_num, by rw [hsum.out]; omega, hown2, KeysAre.congr hkeys2.out (fun x => by rw [named_step]; exact or_assoc), hbel2⟩
            case measure => simp [intOf]; omega
    · go_wp2_with fail
      go_ret
      have e : i = n := by omega
      subst e
      exact ⟨_, k, D, rfl, by omega, hown, hkeys, hbel⟩
end Go.Proofs.Qxb6609165a
