/-
  The memory that zzToTable makes.
-/
import Derived.Test.Qxb6609165aMem
import Derived.BigRegion
import Derived.Laws.OwnMore
namespace Go.Proofs.Qxb6609165a
open Go Go.RowKit
set_option linter.unusedVariables false

theorem info60 : (Try.prog.info? 60).map (fun i => (i.zero, i.size, i.bytes)) = some (some (.agg #[.int .i64 0, .string ByteArray.empty, .int .u64 0, .slice none 0 0, .slice none 0 0]), 5, 80) := by kernel_rfl
theorem info49 : (Try.prog.info? 49).map (fun i => (i.zero, i.size, i.bytes)) = some (some (.agg #[.string ByteArray.empty, .int .u64 0]), 2, 24) := by kernel_rfl
theorem info36 : (Try.prog.info? 36).map (fun i => (i.zero, i.size, i.bytes)) = some (some (.agg #[.string ByteArray.empty, .string ByteArray.empty]), 2, 32) := by kernel_rfl

/-- 'make([]T, n)' at an element of several cells. -/
theorem make_gen {t e : TypeId} {z : Value} {sz by_ : Nat} (ht : Try.prog.underlying t = some (.slice e)) (hi : (Try.prog.info? e).map (fun i => (i.zero, i.size, i.bytes)) = some (some z, sz, by_)) (n : Nat) (h : n ≤ 4000000) (hb : by_ ≤ 100) :
    ∃ X : Array Value, X.size = n * sz ∧ ∀ W : World, (Instr.makeSlice t (.int .i64 (n : Int)) (.int .i64 (n : Int))).run Try.prog W = .ok (.slice (some ⟨W.heap.size, 0, none⟩) n n) (W.alloc (.cells X e)) := by
  obtain ⟨i0, hi0, hz0, hz1, hz2⟩ := info_parts hi
  refine ⟨madeCells z.cells (n * sz), size_madeCells _ _, fun W => ?_⟩
  have h1 : (i0.bytes : Int) * (n : Int) ≤ 281474976710656 := by
    rw [hz2]
    have : by_ * n ≤ 100 * 4000000 := Nat.mul_le_mul hb h
    omega
  have hr := run_make (P := Try.prog) W t e i0 z ht hi0 hz0 .i64 .i64 (n : Int) (n : Int) (by omega) (by omega) h1 (by omega)
  rw [hz1] at hr
  exact hr

/-- m cells in block g, all there and open to stores. -/
structure Room (w : World) (g m : Nat) : Prop where
  cell : ∀ k, k < m → ∃ v, w.cell? ⟨g, k, none⟩ = some v
  open_ : ∀ k, w.frozen? ⟨g, k, none⟩ = false
  lt : g < w.heap.size

theorem room_new (w : World) (X : Array Value) (e : TypeId) : Room (w.alloc (.cells X e)) w.heap.size X.size :=
  ⟨fun k hk => ⟨X[k], by rw [World.cell?_alloc_new]; exact Array.getElem?_eq_getElem hk⟩, fun k => World.frozen?_alloc_new _ _ _ _, by simp⟩

/-- The table's own slots: of the first i the leader and the followers. -/
structure Made (w : World) (g n : Nat) (S : Nat → SlotM) (i : Nat) : Prop where
  room : Room w g (n * 5)
  ld : ∀ j, j < i → w.cell? ⟨g, j * 5 + 1, none⟩ = some (.string (S j).ld)
  fs : ∀ j, j < i → w.cell? ⟨g, j * 5 + 3, none⟩ = some (.slice (S j).fa (S j).fn (S j).fc)
  id : ∀ j, j < i → w.cell? ⟨g, j * 5, none⟩ = some (.int .i64 (S j).id)
  ep : ∀ j, j < i → w.cell? ⟨g, j * 5 + 2, none⟩ = some (.int .u64 (S j).ep)
  nr : ∀ j, j < i → ∃ na nn nc, w.cell? ⟨g, j * 5 + 4, none⟩ = some (.slice na nn nc)

/-- Five cells written in a row. -/
def put5 (w : World) (g o : Nat) (v0 v1 v2 v3 v4 : Value) : World :=
  ((((w.setCell ⟨g, o, none⟩ v0).setCell ⟨g, o + 1, none⟩ v1).setCell ⟨g, o + 2, none⟩ v2).setCell ⟨g, o + 3, none⟩ v3).setCell ⟨g, o + 4, none⟩ v4
/-- Two cells written in a row. -/
def put2 (w : World) (g o : Nat) (v0 v1 : Value) : World := (w.setCell ⟨g, o, none⟩ v0).setCell ⟨g, o + 1, none⟩ v1

theorem set_exists {w : World} {a b : Addr} {v u : Value} (h : ∃ v, w.cell? b = some v) : ∃ v, (w.setCell a u).cell? b = some v := by
  obtain ⟨v, hv⟩ := h
  by_cases e : b = a
  · subst e
    exact ⟨u, World.cell?_setCell_same _ _ _ hv⟩
  · exact ⟨v, by rw [World.cell?_setCell_other _ _ _ _ (fun h => e h.symm)]; exact hv⟩

theorem Room.set {w : World} {g m : Nat} (h : Room w g m) (a : Addr) (u : Value) : Room (w.setCell a u) g m :=
  ⟨fun k hk => set_exists (v := u) (h.cell k hk), fun k => by rw [World.frozen?_setCell]; exact h.open_ k, by simpa [World.setCell] using h.lt⟩

theorem Room.drew {w : World} {g m : Nat} (h : Room w g m) : Room w.drew g m := ⟨h.cell, h.open_, h.lt⟩
theorem Room.below {B : Nat} {w w' : World} {g m : Nat} (h : Room w g m) (hb : Below B w w') (hg : g < B) : Room w' g m :=
  ⟨fun k hk => by rw [hb.cell (p := ⟨g, k, none⟩) hg]; exact h.cell k hk, fun k => by rw [hb.frozen (p := ⟨g, k, none⟩) hg]; exact h.open_ k, Nat.lt_of_lt_of_le h.lt hb.size⟩
theorem Made.below {B : Nat} {w w' : World} {g n i : Nat} {S : Nat → SlotM} (h : Made w g n S i) (hb : Below B w w') (hg : g < B) : Made w' g n S i :=
  ⟨h.room.below hb hg, fun j hj => by rw [hb.cell (p := ⟨g, _, none⟩) hg]; exact h.ld j hj, fun j hj => by rw [hb.cell (p := ⟨g, _, none⟩) hg]; exact h.fs j hj, fun j hj => by rw [hb.cell (p := ⟨g, _, none⟩) hg]; exact h.id j hj, fun j hj => by rw [hb.cell (p := ⟨g, _, none⟩) hg]; exact h.ep j hj, fun j hj => by rw [hb.cell (p := ⟨g, _, none⟩) hg]; exact h.nr j hj⟩

theorem put5_other (w : World) (g o : Nat) (v0 v1 v2 v3 v4 : Value) (k : Nat) (h : k < o ∨ o + 4 < k) : (put5 w g o v0 v1 v2 v3 v4).cell? ⟨g, k, none⟩ = w.cell? ⟨g, k, none⟩ := by
  unfold put5
  have e (m : Nat) (hm : m = o ∨ m = o + 1 ∨ m = o + 2 ∨ m = o + 3 ∨ m = o + 4) : (⟨g, m, none⟩ : Addr) ≠ ⟨g, k, none⟩ := by
    intro h'
    have : m = k := congrArg Addr.off h'
    omega
  rw [World.cell?_setCell_other _ _ _ _ (e _ (by omega)), World.cell?_setCell_other _ _ _ _ (e _ (by omega)), World.cell?_setCell_other _ _ _ _ (e _ (by omega)), World.cell?_setCell_other _ _ _ _ (e _ (by omega)), World.cell?_setCell_other _ _ _ _ (e _ (by omega))]

theorem off_ne (g a b : Nat) (h : a ≠ b) : (⟨g, a, none⟩ : Addr) ≠ ⟨g, b, none⟩ := fun h' => h (congrArg Addr.off h')

theorem put5_one (w : World) (g o : Nat) (v0 v1 v2 v3 v4 : Value) (h : ∃ v, w.cell? ⟨g, o + 1, none⟩ = some v) : (put5 w g o v0 v1 v2 v3 v4).cell? ⟨g, o + 1, none⟩ = some v1 := by
  unfold put5
  rw [World.cell?_setCell_other _ _ _ _ (off_ne _ _ _ (by omega)), World.cell?_setCell_other _ _ _ _ (off_ne _ _ _ (by omega)), World.cell?_setCell_other _ _ _ _ (off_ne _ _ _ (by omega))]
  obtain ⟨v, hv⟩ := h
  exact World.cell?_setCell_same _ _ _ (show _ = some v from by rw [World.cell?_setCell_other _ _ _ _ (off_ne _ _ _ (by omega))]; exact hv)
theorem put5_three (w : World) (g o : Nat) (v0 v1 v2 v3 v4 : Value) (h : ∃ v, w.cell? ⟨g, o + 3, none⟩ = some v) : (put5 w g o v0 v1 v2 v3 v4).cell? ⟨g, o + 3, none⟩ = some v3 := by
  unfold put5
  rw [World.cell?_setCell_other _ _ _ _ (off_ne _ _ _ (by omega))]
  obtain ⟨v, hv⟩ := h
  exact World.cell?_setCell_same _ _ _ (show _ = some v from by rw [World.cell?_setCell_other _ _ _ _ (off_ne _ _ _ (by omega)), World.cell?_setCell_other _ _ _ _ (off_ne _ _ _ (by omega)), World.cell?_setCell_other _ _ _ _ (off_ne _ _ _ (by omega))]; exact hv)

theorem put5_zero (w : World) (g o : Nat) (v0 v1 v2 v3 v4 : Value) (h : ∃ v, w.cell? ⟨g, o, none⟩ = some v) : (put5 w g o v0 v1 v2 v3 v4).cell? ⟨g, o, none⟩ = some v0 := by
  unfold put5
  rw [World.cell?_setCell_other _ _ _ _ (off_ne _ _ _ (by omega)), World.cell?_setCell_other _ _ _ _ (off_ne _ _ _ (by omega)), World.cell?_setCell_other _ _ _ _ (off_ne _ _ _ (by omega)), World.cell?_setCell_other _ _ _ _ (off_ne _ _ _ (by omega))]
  obtain ⟨v, hv⟩ := h
  exact World.cell?_setCell_same _ _ _ hv
theorem put5_two (w : World) (g o : Nat) (v0 v1 v2 v3 v4 : Value) (h : ∃ v, w.cell? ⟨g, o + 2, none⟩ = some v) : (put5 w g o v0 v1 v2 v3 v4).cell? ⟨g, o + 2, none⟩ = some v2 := by
  unfold put5
  rw [World.cell?_setCell_other _ _ _ _ (off_ne _ _ _ (by omega)), World.cell?_setCell_other _ _ _ _ (off_ne _ _ _ (by omega))]
  obtain ⟨v, hv⟩ := h
  exact World.cell?_setCell_same _ _ _ (show _ = some v from by rw [World.cell?_setCell_other _ _ _ _ (off_ne _ _ _ (by omega)), World.cell?_setCell_other _ _ _ _ (off_ne _ _ _ (by omega))]; exact hv)
theorem put5_four (w : World) (g o : Nat) (v0 v1 v2 v3 v4 : Value) (h : ∃ v, w.cell? ⟨g, o + 4, none⟩ = some v) : (put5 w g o v0 v1 v2 v3 v4).cell? ⟨g, o + 4, none⟩ = some v4 := by
  unfold put5
  obtain ⟨v, hv⟩ := h
  exact World.cell?_setCell_same _ _ _ (show _ = some v from by rw [World.cell?_setCell_other _ _ _ _ (off_ne _ _ _ (by omega)), World.cell?_setCell_other _ _ _ _ (off_ne _ _ _ (by omega)), World.cell?_setCell_other _ _ _ _ (off_ne _ _ _ (by omega)), World.cell?_setCell_other _ _ _ _ (off_ne _ _ _ (by omega))]; exact hv)

theorem cell_drew (w : World) (p : Addr) : w.drew.cell? p = w.cell? p := rfl

theorem Room.put5 {w : World} {g m : Nat} (h : Room w g m) (o : Nat) (v0 v1 v2 v3 v4 : Value) : Room (put5 w g o v0 v1 v2 v3 v4).drew g m := by
  unfold Qxb6609165a.put5
  exact ((((((h.set _ _).set _ _).set _ _).set _ _).set _ _)).drew
theorem Room.put2 {w : World} {g m : Nat} (h : Room w g m) (o : Nat) (v0 v1 : Value) : Room (put2 w g o v0 v1).drew g m := by
  unfold Qxb6609165a.put2
  exact ((h.set _ _).set _ _).drew

theorem made_step {w : World} {g n i : Nat} {S : Nat → SlotM} (h : Made w g n S i) (hi : i < n) (na : Option Addr) (nn nc : Nat) :
    Made (put5 w g (i * 5) (.int .i64 (S i).id) (.string (S i).ld) (.int .u64 (S i).ep) (.slice (S i).fa (S i).fn (S i).fc) (.slice na nn nc)).drew g n S (i + 1) := by
  refine ⟨h.room.put5 _ _ _ _ _ _, fun j hj => ?_, fun j hj => ?_, fun j hj => ?_, fun j hj => ?_, fun j hj => ?_⟩
  all_goals
    rw [cell_drew]
    rcases Nat.lt_or_eq_of_le (Nat.le_of_lt_succ hj) with h3 | h3
  · rw [put5_other _ _ _ _ _ _ _ _ _ (by omega)]
    exact h.ld j h3
  · rw [h3]
    exact put5_one _ _ _ _ _ _ _ _ (h.room.cell (i * 5 + 1) (by omega))
  · rw [put5_other _ _ _ _ _ _ _ _ _ (by omega)]
    exact h.fs j h3
  · rw [h3]
    exact put5_three _ _ _ _ _ _ _ _ (h.room.cell (i * 5 + 3) (by omega))
  · rw [put5_other _ _ _ _ _ _ _ _ _ (by omega)]
    exact h.id j h3
  · rw [h3]
    exact put5_zero _ _ _ _ _ _ _ _ (h.room.cell (i * 5) (by omega))
  · rw [put5_other _ _ _ _ _ _ _ _ _ (by omega)]
    exact h.ep j h3
  · rw [h3]
    exact put5_two _ _ _ _ _ _ _ _ (h.room.cell (i * 5 + 2) (by omega))
  · rw [put5_other _ _ _ _ _ _ _ _ _ (by omega)]
    exact h.nr j h3
  · rw [h3]
    exact ⟨na, nn, nc, put5_four _ _ _ _ _ _ _ _ (h.room.cell (i * 5 + 4) (by omega))⟩

theorem below5 {B : Nat} {a w : World} (h : Below B a w) {g : Nat} (hg : B ≤ g) (o : Nat) (v0 v1 v2 v3 v4 : Value) : Below B a (put5 w g o v0 v1 v2 v3 v4).drew :=
  (((((h.setCell (p := ⟨g, o, none⟩) hg _).setCell (p := ⟨g, o + 1, none⟩) hg _).setCell (p := ⟨g, o + 2, none⟩) hg _).setCell (p := ⟨g, o + 3, none⟩) hg _).setCell (p := ⟨g, o + 4, none⟩) hg _).drew
theorem below2 {B : Nat} {a w : World} (h : Below B a w) {g : Nat} (hg : B ≤ g) (o : Nat) (v0 v1 : Value) : Below B a (put2 w g o v0 v1).drew :=
  ((h.setCell (p := ⟨g, o, none⟩) hg _).setCell (p := ⟨g, o + 1, none⟩) hg _).drew

/-- The table at block T: its slots. -/
def TabAt (w : World) (T n : Nat) (S : Nat → SlotM) : Prop := T < w.heap.size ∧ ∃ a', w.cell? ⟨T, 2, none⟩ = some (.slice a' n n) ∧ ∀ k, k < n → ∃ g, a' = some ⟨g, 0, none⟩ ∧ Made w g n S n


theorem tab_close {W0 w3 : World} {a' : Option Addr} {n : Nat} {S : Nat → SlotM} (h : ∀ k, k < n → ∃ g, a' = some ⟨g, 0, none⟩ ∧ Made W0 g n S n) (hb : Below W0.heap.size W0 w3) (v0 v1 v3 : Value) :
    TabAt (w3.alloc (.cells #[v0, v1, .slice a' n n, v3] 56)) w3.heap.size n S := by
  refine ⟨by simp, a', ?_, fun k hk => ?_⟩
  · rw [World.cell?_alloc_new]; rfl
  · obtain ⟨g, e, hM⟩ := h k hk
    exact ⟨g, e, (hM.below hb hM.room.lt).below ((Below.refl _ _).alloc (Nat.le_refl _) _) (Nat.lt_of_lt_of_le hM.room.lt hb.size)⟩
end Go.Proofs.Qxb6609165a
