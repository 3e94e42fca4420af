/-
  Rows of strings, of pairs of strings and of slots in memory; zzLook walked.
-/
import Derived.Test.Qxb6609165aRows
import Derived.WalkKit
import Derived.WalkSpells
import Derived.WalkLawsBesides
import Derived.LoopTactic
import Derived.Lib.Strings
import Derived.Deep.Draws
namespace Go.Proofs.Qxb6609165a
open Go Go.RowKit
set_option linter.unusedVariables false

/-- A slice of n strings f, its array in a block below B. -/
def StrRow (B : Nat) (w : World) (a : Option Addr) (n : Nat) (f : Nat → ByteArray) : Prop :=
  ∀ k, k < n → ∃ b off, a = some ⟨b, off, none⟩ ∧ b < B ∧ ∀ j, j < n → w.cell? ⟨b, off + j, none⟩ = some (.string (f j))

/-- A slice of n pairs of strings. -/
def PairRow (B : Nat) (w : World) (a : Option Addr) (n : Nat) (f g : Nat → ByteArray) : Prop :=
  ∀ k, k < n → ∃ b off, a = some ⟨b, off, none⟩ ∧ b < B ∧ ∀ j, j < n → w.cell? ⟨b, off + j * 2, none⟩ = some (.string (f j)) ∧ w.cell? ⟨b, off + j * 2 + 1, none⟩ = some (.string (g j))

/-- A slice of n pairs of a string and a uint64. -/
def NodeRow (B : Nat) (w : World) (a : Option Addr) (n : Nat) (f : Nat → ByteArray) (g : Nat → Int) : Prop :=
  ∀ k, k < n → ∃ b off, a = some ⟨b, off, none⟩ ∧ b < B ∧ ∀ j, j < n → w.cell? ⟨b, off + j * 2, none⟩ = some (.string (f j)) ∧ w.cell? ⟨b, off + j * 2 + 1, none⟩ = some (.int .u64 (g j))

/-- What a slot holds. -/
structure SlotM where
  id : Int
  ld : ByteArray
  ep : Int
  fa : Option Addr
  fn : Nat
  fc : Nat
  fs : Nat → ByteArray
  na : Option Addr
  nn : Nat
  nc : Nat
  nf : Nat → ByteArray
  ng : Nat → Int

/-- The five cells of a slot. -/
structure SlotAt (B : Nat) (w : World) (b o : Nat) (s : SlotM) : Prop where
  c0 : w.cell? ⟨b, o, none⟩ = some (.int .i64 s.id)
  c1 : w.cell? ⟨b, o + 1, none⟩ = some (.string s.ld)
  c2 : w.cell? ⟨b, o + 2, none⟩ = some (.int .u64 s.ep)
  c3 : w.cell? ⟨b, o + 3, none⟩ = some (.slice s.fa s.fn s.fc)
  c4 : w.cell? ⟨b, o + 4, none⟩ = some (.slice s.na s.nn s.nc)
  fr : StrRow B w s.fa s.fn s.fs
  nr : NodeRow B w s.na s.nn s.nf s.ng
  fl : s.fn ≤ 9223372036854775807
  nl : s.nn ≤ 9223372036854775807
  ls : s.ld.size ≤ 9223372036854775807
  fss : ∀ j, j < s.fn → (s.fs j).size ≤ 9223372036854775807
  nss : ∀ j, j < s.nn → (s.nf j).size ≤ 9223372036854775807

/-- A slice of n slots. -/
def SlotRow (B : Nat) (w : World) (a : Option Addr) (n : Nat) (S : Nat → SlotM) : Prop :=
  ∀ k, k < n → ∃ b off, a = some ⟨b, off, none⟩ ∧ b < B ∧ ∀ j, j < n → SlotAt B w b (off + j * 5) (S j)

/-! ### They stay while nothing below B turns. -/
theorem StrRow.below {B : Nat} {w w' : World} {a : Option Addr} {n : Nat} {f : Nat → ByteArray} (h : StrRow B w a n f) (hb : Below B w w') : StrRow B w' a n f := fun k hk => by
  obtain ⟨b, off, e, hlt, hc⟩ := h k hk
  exact ⟨b, off, e, hlt, fun j hj => by rw [hb.cell (p := ⟨b, off + j, none⟩) hlt]; exact hc j hj⟩
theorem PairRow.below {B : Nat} {w w' : World} {a : Option Addr} {n : Nat} {f g : Nat → ByteArray} (h : PairRow B w a n f g) (hb : Below B w w') : PairRow B w' a n f g := fun k hk => by
  obtain ⟨b, off, e, hlt, hc⟩ := h k hk
  exact ⟨b, off, e, hlt, fun j hj => by rw [hb.cell (p := ⟨b, off + j * 2, none⟩) hlt, hb.cell (p := ⟨b, off + j * 2 + 1, none⟩) hlt]; exact hc j hj⟩
theorem NodeRow.below {B : Nat} {w w' : World} {a : Option Addr} {n : Nat} {f : Nat → ByteArray} {g : Nat → Int} (h : NodeRow B w a n f g) (hb : Below B w w') : NodeRow B w' a n f g := fun k hk => by
  obtain ⟨b, off, e, hlt, hc⟩ := h k hk
  exact ⟨b, off, e, hlt, fun j hj => by rw [hb.cell (p := ⟨b, off + j * 2, none⟩) hlt, hb.cell (p := ⟨b, off + j * 2 + 1, none⟩) hlt]; exact hc j hj⟩
theorem SlotRow.below {B : Nat} {w w' : World} {a : Option Addr} {n : Nat} {S : Nat → SlotM} (h : SlotRow B w a n S) (hb : Below B w w') : SlotRow B w' a n S := fun k hk => by
  obtain ⟨b, off, e, hlt, hc⟩ := h k hk
  refine ⟨b, off, e, hlt, fun j hj => ?_⟩
  have s := hc j hj
  exact ⟨by rw [hb.cell (p := ⟨b, _, none⟩) hlt]; exact s.c0, by rw [hb.cell (p := ⟨b, _, none⟩) hlt]; exact s.c1, by rw [hb.cell (p := ⟨b, _, none⟩) hlt]; exact s.c2, by rw [hb.cell (p := ⟨b, _, none⟩) hlt]; exact s.c3, by rw [hb.cell (p := ⟨b, _, none⟩) hlt]; exact s.c4, s.fr.below hb, s.nr.below hb, s.fl, s.nl, s.ls, s.fss, s.nss⟩

theorem bytes_ext {a b : ByteArray} (h : a.data.toList = b.data.toList) : a = b := by
  cases a; cases b
  simp only [ByteArray.mk.injEq]
  exact Array.toList_inj.1 h
theorem str_eq (a b : ByteArray) : (a.toList == b.toList) = decide (a = b) := by
  rw [Lib.toList_data, Lib.toList_data, Bool.eq_iff_iff, beq_iff_eq, decide_eq_true_iff]
  exact ⟨bytes_ext, fun h => by rw [h]⟩

/-- What the book gives a node. -/
def look : Nat → (Nat → ByteArray) → (Nat → ByteArray) → ByteArray → ByteArray
  | 0, _, _, _ => ByteArray.empty
  | n + 1, f, g, x => if f 0 = x then g 0 else look n (fun i => f (i + 1)) (fun i => g (i + 1)) x

theorem look_hit (x : ByteArray) : ∀ (n : Nat) (f g : Nat → ByteArray) (j : Nat), j < n → (∀ i, i < j → f i ≠ x) → f j = x → look n f g x = g j
  | 0, f, g, j, h, _, _ => by omega
  | n + 1, f, g, 0, _, _, h => by rw [look, if_pos h]
  | n + 1, f, g, j + 1, h, hno, hx => by
    rw [look, if_neg (hno 0 (by omega))]
    exact look_hit x n _ _ j (by omega) (fun i hi => hno (i + 1) (by omega)) hx
theorem look_miss (x : ByteArray) : ∀ (n : Nat) (f g : Nat → ByteArray), (∀ i, i < n → f i ≠ x) → look n f g x = ByteArray.empty
  | 0, f, g, _ => rfl
  | n + 1, f, g, h => by
    rw [look, if_neg (h 0 (by omega))]
    exact look_miss x n _ _ (fun i hi => h (i + 1) (by omega))

theorem ret_str {a b : ByteArray} (h : a = b) : Ending.returned (.string a) = .returned (.string b) := by rw [h]

set_option maxHeartbeats 400000 in
theorem look_any (a : Option Addr) (n c : Nat) (f g : Nat → ByteArray) (x : ByteArray) (w : World) (hn : n ≤ 9223372036854775807) (B : Nat) (hB : Hid (PairRow B w a n f g)) :
    Calls Try.prog 12 #[.slice a n c, .string x] w fun e w' => e = .returned (.string (look n f g x)) ∧ w' = w := by
  go_enter Try.func12, Try.ntmps12
  go_wp2
  go_loop [5] (fun i => ∃ j : Nat, j ≤ n ∧ i = .int .i64 j ∧ Hid (∀ i, i < j → f i ≠ x)) (fun i => n - (intOf i).toNat)
  case atStart => exact ⟨0, Nat.zero_le _, rfl, fun i hi => by omega⟩
  case round =>
    obtain ⟨j, hj, rfl, hno⟩ := hrel
    by_cases hlt : j < n
    · obtain ⟨b, off, rfl, hb, hc⟩ := hB.out j hlt
      obtain ⟨h1, h2⟩ := hc j hlt
      clear hc
      by_cases hx : f j = x
      · have hbx : ((f j).toList == x.toList) = true := by rw [str_eq]; simpa using hx
        have HX : Hid (look n f g x = g j) := look_hit x n f g j hlt hno.out hx
        clear hx
        go_wp2
        go_ret
        exact ⟨ret_str HX.out.symm, rfl⟩
      · have hbx : ((f j).toList == x.toList) = false := by rw [str_eq]; simpa using hx
        have HX : Hid (¬ f j = x) := hx
        clear hx
        go_wp2
        go_round
        case rel => exact ⟨j + 1, by omega, by go_num, fun i hi => by
          rcases Nat.lt_or_eq_of_le (Nat.le_of_lt_succ hi) with h3 | h3
          · exact hno.out i h3
          · rw [h3]; exact HX⟩
        case measure => simp [intOf]; omega
    · have HX : Hid (look n f g x = ByteArray.empty) := look_miss x n f g (fun i hi => hno.out i (by omega))
      go_wp2
      go_ret
      exact ⟨ret_str HX.out.symm, rfl⟩

/-! ### zzAdd: it answers a number from 0 to 1048576 and a bool. -/
/-- Two results: a number in range, and a bool. -/
def AnsAdd (e : Ending) : Prop := ∃ (n : Int) (b : Bool), e = .returned (.tuple #[.int .i64 n, .bool b]) ∧ 0 ≤ n ∧ n ≤ 1048576

theorem ansAdd_no : AnsAdd (.returned (.tuple #[.int .i64 0, .bool true])) := ⟨0, true, rfl, by omega, by omega⟩

theorem ansAdd_yes (n : Int) (h : 0 ≤ n ∧ n ≤ 1048576) : AnsAdd (.returned (.tuple #[.int .i64 n, .bool false])) := ⟨n, false, rfl, h.1, h.2⟩

set_option maxRecDepth 100000 in
set_option maxHeartbeats 2000000 in
theorem add_any (t x k : Int) (w : World) (ht : 0 ≤ t ∧ t ≤ 1048576) (hx : 0 ≤ x ∧ x ≤ 9223372036854775807) (hk : k = 64 ∨ k = 1 ∨ k = 16 ∨ k = 24 ∨ k = 32) :
    Calls Try.prog 28 #[.int .i64 t, .int .i64 x, .int .i64 k] w fun e w' => AnsAdd e ∧ w' = w := by
  obtain ⟨ht0, ht1⟩ := ht
  obtain ⟨hx0, hx1⟩ := hx
  have d1 : decide (t < 0) = false := by simp; omega
  have d2 : decide (1048576 < t) = false := by simp; omega
  have d3 : decide (x < 0) = false := by simp; omega
  rcases hk with rfl | rfl | rfl | rfl | rfl
  all_goals
    go_enter Try.func28, Try.ntmps28
    go_wp2
    · go_ret2
      exact ⟨ansAdd_no, rfl⟩
    · go_ret2
      exact ⟨ansAdd_yes _ (by omega), rfl⟩
end Go.Proofs.Qxb6609165a
