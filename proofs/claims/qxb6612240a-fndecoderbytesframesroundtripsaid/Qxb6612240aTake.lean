/-
  Byte rows in memory; (*decoder).take walked.
-/
import Derived.Test.Qxb6612240aShelf
import Derived.WalkKit
import Derived.WalkSpells
import Derived.LoopTactic
import Derived.Laws.AppendOwnNone
import Derived.Lib.SliceRun
namespace Go.Proofs.Qxb6612240a
open Go Go.RowKit
set_option linter.unusedVariables false

/-- The slice at a holds the bytes zs, in a block below B. -/
def BRow (B : Nat) (w : World) (a : Option Addr) (zs : List Int) : Prop :=
  ∀ k, k < zs.length → ∃ b off, a = some ⟨b, off, none⟩ ∧ b < B ∧ ∀ j, j < zs.length → w.cell? ⟨b, off + j, none⟩ = some (.int .u8 (zs.getD j 0))

theorem BRow.mono {B B' : Nat} {w : World} {a : Option Addr} {zs : List Int} (h : BRow B w a zs) (hB : B ≤ B') : BRow B' w a zs := fun k hk => by
  obtain ⟨b, off, e, hb, hc⟩ := h k hk
  exact ⟨b, off, e, by omega, hc⟩

theorem BRow.below {B : Nat} {w w' : World} {a : Option Addr} {zs : List Int} (h : BRow B w a zs) (hb : Below B w w') : BRow B w' a zs := fun k hk => by
  obtain ⟨b, off, e, hlt, hc⟩ := h k hk
  exact ⟨b, off, e, hlt, fun j hj => by rw [hb.cell (p := ⟨b, off + j, none⟩) hlt]; exact hc j hj⟩

theorem BRow.take {B : Nat} {w : World} {a : Option Addr} {zs : List Int} (h : BRow B w a zs) (n : Nat) : BRow B w a (zs.take n) := fun k hk => by
  rw [List.length_take] at hk
  obtain ⟨b, off, e, hlt, hc⟩ := h k (by omega)
  refine ⟨b, off, e, hlt, fun j hj => ?_⟩
  rw [List.length_take] at hj
  rw [hc j (by omega), List.getD_eq_getElem?_getD, List.getD_eq_getElem?_getD, List.getElem?_take_of_lt (by omega)]

/-- What is left behind the first n. -/
theorem BRow.drop {B : Nat} {w : World} {a : Option Addr} {zs : List Int} (h : BRow B w a zs) (n cap : Nat) (hc : zs.length ≤ cap) : BRow B w (if cap = n then a else a.map (·.add n)) (zs.drop n) := fun k hk => by
  rw [List.length_drop] at hk
  obtain ⟨b, off, e, hlt, hcell⟩ := h k (by omega)
  subst e
  rw [if_neg (by omega)]
  refine ⟨b, off + n, ?_, hlt, fun j hj => ?_⟩
  · rw [Option.map_some, Go.WideShapes.add_plain]
  · rw [List.length_drop] at hj
    rw [Nat.add_assoc, hcell (n + j) (by omega), List.getD_eq_getElem?_getD, List.getD_eq_getElem?_getD, List.getElem?_drop]

set_option maxHeartbeats 400000 in
theorem take_any (D : Nat) (a : Option Addr) (L cap n : Nat) (w : World) (hn : n ≤ L) (hL : L ≤ cap) (hcap : cap ≤ 9223372036854775807) (h0 : w.cell? ⟨D, 0, none⟩ = some (.slice a L cap)) (h1 : w.cell? ⟨D, 1, none⟩ = some .nilIface) (hf : w.frozen? ⟨D, 0, none⟩ = false) :
    Calls Try.prog 36 #[.pointer (some ⟨D, 0, none⟩), .int .i64 n] w fun e w' => e = .returned (.slice a n cap) ∧ w' = w.setCell ⟨D, 0, none⟩ (.slice (if cap = n then a else a.map (·.add n)) (L - n) (cap - n)) := by
  go_enter Try.func36, Try.ntmps36
  go_wp2_with fail
  all_goals
    go_ret
    exact ⟨rfl, rfl⟩

theorem BRow.other {B : Nat} {w w' : World} {a : Option Addr} {zs : List Int} {D : Nat} (h : BRow B w a zs) (hg : w.grownBy w' (some D)) (hB : B ≤ w.heap.size) (hD : B ≤ D) : BRow B w' a zs := fun k hk => by
  obtain ⟨b, off, e, hlt, hc⟩ := h k hk
  exact ⟨b, off, e, hlt, fun j hj => by rw [World.cell?_of_block (w := w) (a := ⟨b, off + j, none⟩) (hg.block b (by omega) (by simp; omega))]; exact hc j hj⟩

/-- The decoder at block D stands at the bytes zs, no error. -/
def Dec (w : World) (D : Nat) (zs : List Int) : Prop :=
  ∃ ad cap, w.cell? ⟨D, 0, none⟩ = some (.slice (some ad) zs.length cap) ∧ w.cell? ⟨D, 1, none⟩ = some .nilIface ∧ w.frozen? ⟨D, 0, none⟩ = false ∧ zs.length ≤ cap ∧ cap ≤ 9223372036854775807 ∧ BRow D w (some ad) zs ∧ D < w.heap.size

theorem grown_setCell (w : World) (D : Nat) (u : Value) : w.grownBy (w.setCell ⟨D, 0, none⟩ u) (some D) :=
  ⟨rfl, rfl, rfl, by simp [World.setCell], fun k hk hne => Below.heap_setCell _ _ _ _ (fun e => hne (by rw [e]))⟩

theorem if_map_some (p : Prop) [Decidable p] (ad : Addr) (n : Nat) : ∃ ad', (if p then some ad else (some ad).map (·.add n)) = some ad' := by
  split
  · exact ⟨_, rfl⟩
  · exact ⟨_, rfl⟩

theorem take_dec (D : Nat) (zs : List Int) (n : Nat) (w : World) (h : Dec w D zs) (hn : n ≤ zs.length) :
    Calls Try.prog 36 #[.pointer (some ⟨D, 0, none⟩), .int .i64 n] w fun e w' => ∃ ad cap, e = .returned (.slice (some ad) n cap) ∧ BRow D w' (some ad) (zs.take n) ∧ Dec w' D (zs.drop n) ∧ w.grownBy w' (some D) := by
  obtain ⟨ad, cap, h0, h1, hf, hl, hc, hB, hD⟩ := h
  refine (take_any D (some ad) zs.length cap n w hn hl hc h0 h1 hf).mono ?_
  rintro e w' ⟨rfl, rfl⟩
  have hg := grown_setCell w D (.slice (if cap = n then some ad else (some ad).map (·.add n)) (zs.length - n) (cap - n))
  refine ⟨ad, cap, rfl, (hB.other hg (by omega) (Nat.le_refl _)).take n, ?_, hg⟩
  obtain ⟨ad', e'⟩ := if_map_some (cap = n) ad n
  refine ⟨ad', cap - n, ?_, ?_, ?_, by rw [List.length_drop]; omega, by omega, ?_, by simpa [World.setCell] using hD⟩
  · rw [World.cell?_setCell_same _ _ _ h0, e', List.length_drop]
  · rw [World.cell?_setCell_other _ _ _ _ (by simp)]; exact h1
  · rw [World.frozen?_setCell]; exact hf
  · rw [← e']; exact (hB.other hg (by omega) (Nat.le_refl _)).drop n cap hl
end Go.Proofs.Qxb6612240a
