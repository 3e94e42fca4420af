/-
  zzMark walked: the entry of x is marked.
-/
import Derived.Test.Qxb6609165aFrom
import Derived.Laws.OwnMore
namespace Go.Proofs.Qxb6609165a
open Go Go.RowKit
set_option linter.unusedVariables false

/-- The marks: m bools in block hb. -/
def HitAt (w : World) (hb m : Nat) (bs : List Bool) : Prop := bs.length = m ∧ w.ownsRow 0 4 1 (.slice (some ⟨hb, 0, none⟩) m m) m (bs.map Value.bool)

/-- From bs to bs' no mark is lost, and the entry of x is marked where x has an address. -/
def Step (L : ByteArray → ByteArray) (f : Nat → ByteArray) (m : Nat) (x : ByteArray) (bs bs' : List Bool) : Prop :=
  (∀ j : Nat, bs[j]? = some true → bs'[j]? = some true) ∧ ∀ j : Nat, j < m → f j = x → L x ≠ ByteArray.empty → bs'[j]? = some true

theorem HitAt.cell {w : World} {hb m : Nat} {bs : List Bool} (h : HitAt w hb m bs) (k : Nat) (hk : k < m) : ∃ v, w.cell? ⟨hb, k, none⟩ = some (.bool v) ∧ bs[k]? = some v := by
  refine ⟨bs.getD k false, ?_, ?_⟩
  · rw [h.2.cellAt k (by omega)]
    simp [List.getD, show k < bs.length by have := h.1; omega]
  · simp [List.getD, show k < bs.length by have := h.1; omega]
theorem HitAt.frozen {w : World} {hb m : Nat} {bs : List Bool} (h : HitAt w hb m bs) (k : Nat) : w.frozen? ⟨hb, k, none⟩ = false := h.2.frozenAt k
theorem HitAt.stored {w : World} {hb m : Nat} {bs : List Bool} (h : HitAt w hb m bs) (k : Nat) : HitAt (w.setCell ⟨hb, k, none⟩ (.bool true)) hb m (bs.set k true) := by
  refine ⟨by simpa using h.1, ?_⟩
  rw [List.map_set]
  exact (h.2.stored k (.bool true)).1

theorem Asc.inj {n : Nat} {f : Nat → ByteArray} (h : Asc n f) {i j : Nat} (hi : i < n) (hj : j < n) (e : f i = f j) : i = j := by
  rcases Nat.lt_trichotomy i j with h1 | h1 | h1
  · have := h i j h1 hj
    rw [e] at this
    exact absurd this (List.lt_irrefl _)
  · exact h1
  · have := h j i h1 hi
    rw [e] at this
    exact absurd this (List.lt_irrefl _)

set_option maxRecDepth 100000 in
set_option maxHeartbeats 2000000 in
theorem mark_any (ra : Option Addr) (rn rc : Nat) (f g : Nat → ByteArray) (hb : Nat) (a2 : Option Addr) (n2 c2 : Nat) (f2 g2 : Nat → ByteArray) (x : ByteArray) (bs : List Bool) (w : World) (hrn : rn ≤ 1048576) (hn2 : n2 ≤ 1048576) (B : Nat)
    (hR : Hid (PairRow B w ra rn f g)) (hA : Hid (Asc rn f)) (hB2 : Hid (PairRow B w a2 n2 f2 g2)) (hit : Hid (HitAt w hb rn bs)) (hall : Hid (look n2 f2 g2 x ≠ ByteArray.empty → ∃ k, k < rn ∧ f k = x)) :
    Calls Try.prog 13 #[.slice ra rn rc, .slice (some ⟨hb, 0, none⟩) rn rn, .slice a2 n2 c2, .string x] w fun e w' => ∃ bs', e = .returned (.bool true) ∧ Hid (HitAt w' hb rn bs') ∧ Hid (Step (look n2 f2 g2) f rn x bs bs') ∧ Below hb w w' := by
  by_cases hemp : look n2 f2 g2 x = ByteArray.empty
  · have hl := look_any a2 n2 c2 f2 g2 x w (by omega) B hB2
    rw [hemp] at hl
    have HE : Hid (look n2 f2 g2 x = ByteArray.empty) := hemp
    clear hemp
    go_enter Try.func13, Try.ntmps13
    go_wp2_with fail
    refine hl.mono ?_
    rintro e w1 ⟨rfl, hw1⟩
    subst hw1
    clear hl
    go_wp2_with fail
    go_ret
    exact ⟨bs, rfl, hit, ⟨fun j h => h, fun j _ _ h => absurd HE.out h⟩, Below.refl _ _⟩
  · obtain ⟨k, hk, rfl⟩ := hall.out hemp
    have hl := look_any a2 n2 c2 f2 g2 (f k) w (by omega) B hB2
    have hf := find_any ra rn rc f g k w (by omega) hk B hR hA
    obtain ⟨v, hv, hbv⟩ := hit.out.cell k hk
    have hfz := hit.out.frozen k
    obtain ⟨r, hr⟩ : ∃ r, look n2 f2 g2 (f k) = r := ⟨_, rfl⟩
    rw [hr] at hl hemp
    have hie : r.toList.isEmpty = false := by rw [isEmpty_eq]; simpa using hemp
    have HS : Hid (Step (look n2 f2 g2) f rn (f k) bs (bs.set k true)) := by
      have hl := hit.out.1
      refine ⟨fun j h => ?_, fun j hj e _ => ?_⟩
      · rw [List.getElem?_set]
        split
        · rw [if_pos (by omega)]
        · exact h
      · have := hA.out.inj hj hk e
        subst this
        rw [List.getElem?_set_self (by omega)]
    have HH : Hid (HitAt (w.setCell ⟨hb, k, none⟩ (.bool true)) hb rn (bs.set k true)) := hit.out.stored k
    have hbel : Below hb w (w.setCell ⟨hb, k, none⟩ (.bool true)) := Below.setCell (Below.refl hb w) (p := ⟨hb, k, none⟩) (Nat.le_refl hb) _
    clear hemp hr hbv
    generalize f k = x at *
    go_enter Try.func13, Try.ntmps13
    go_wp2_with fail
    refine hl.mono ?_
    rintro e w1 ⟨rfl, hw1⟩
    subst hw1
    clear hl
    go_wp2_with fail
    refine hf.mono ?_
    rintro e w2 ⟨rfl, hw2⟩
    subst hw2
    clear hf
    go_wp2_with fail
    go_ret
    exact ⟨_, rfl, HH, HS, hbel⟩
end Go.Proofs.Qxb6609165a
