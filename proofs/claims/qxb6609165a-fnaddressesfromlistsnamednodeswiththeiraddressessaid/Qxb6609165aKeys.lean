/-
  Plain facts: the keys of a map, sorted; the entries with an address.
-/
import Derived.Test.Qxb6609165aNodes
import Derived.Sort.KeysCollected
namespace Go.Proofs.Qxb6609165a
open Go Go.RowKit Go.Maps
set_option linter.unusedVariables false

theorem keys_facts {w : World} {R : Value → Option (DataW Unit × List MemPlace)} {b k : Nat} {D : DataW Unit} (hown : w.ownsMap Try.prog 9 R b k D) : (strKeys D).Nodup ∧ ∀ x, x ∈ strKeys D ↔ Maps.has D (.string x) = true := by
  obtain ⟨es, rfl, hp⟩ := hown.tidy keyed9
  obtain ⟨es', e, hk⟩ := hown.keysOf
  obtain rfl : es = es' := by simpa using e
  have hs : ∀ p ∈ es, ∃ x, p.1 = Lit.string x := fun p hp' => by
    obtain ⟨key, hkey⟩ := hk p hp'
    obtain ⟨x, _, h2, _⟩ := Maps.keyOf_str Try.underlying9 hkey
    exact ⟨x, h2⟩
  refine ⟨?_, fun x => ?_⟩
  · show (es.map fun p => strOf p.1).Nodup
    refine List.pairwise_map.2 (hp.imp_of_mem fun {p q} hp' hq' hne e => hne ?_)
    obtain ⟨a, ha⟩ := hs p hp'
    obtain ⟨c, hc⟩ := hs q hq'
    rw [ha, hc] at e ⊢
    exact congrArg _ e
  · rw [has_eq, List.any_eq_true]
    show x ∈ es.map (fun p => strOf p.1) ↔ _
    rw [List.mem_map]
    constructor
    · rintro ⟨p, hp', rfl⟩
      obtain ⟨a, ha⟩ := hs p hp'
      exact ⟨p, hp', by rw [ha]; simp [strOf, Lit.sameKey]⟩
    · rintro ⟨p, hp', h⟩
      obtain ⟨a, ha⟩ := hs p hp'
      rw [ha] at h
      refine ⟨p, hp', ?_⟩
      rw [ha]
      simpa [strOf, Lit.sameKey] using h

theorem lt_of_le_ne {a b : List UInt8} (h : a ≤ b) (hn : a ≠ b) : a < b := by
  rcases Decidable.em (a < b) with h1 | h1
  · exact h1
  · exact absurd (List.le_antisymm h (List.not_lt.1 h1)) hn

/-- Sorted and without repeats: strictly ascending. -/
theorem sorted_asc (ss : List (List UInt8)) (hn : ss.Nodup) : (ss.mergeSort (fun x y => decide (x ≤ y))).Pairwise (fun x y => x < y) := by
  have tr : ∀ a b c : List UInt8, decide (a ≤ b) = true → decide (b ≤ c) = true → decide (a ≤ c) = true := fun a b c h1 h2 => by
    simp only [decide_eq_true_eq] at *
    exact List.le_trans h1 h2
  have to : ∀ a b : List UInt8, (decide (a ≤ b) || decide (b ≤ a)) = true := fun a b => by
    simp only [Bool.or_eq_true, decide_eq_true_eq]
    exact List.le_total a b
  have h1 := List.pairwise_mergeSort tr to ss
  have h2 : (ss.mergeSort (fun x y => decide (x ≤ y))).Nodup := (List.mergeSort_perm ss _).nodup_iff.2 hn
  exact (h1.and h2).imp_of_mem (fun {a b} _ _ h => lt_of_le_ne (by simpa using h.1) h.2)

/-- The entries: the keys that have an address, with it. -/
def filt (L : ByteArray → ByteArray) (ks : List (List UInt8)) : List (ByteArray × ByteArray) :=
  ks.filterMap fun k => if L ⟨k.toArray⟩ = ByteArray.empty then none else some (⟨k.toArray⟩, L ⟨k.toArray⟩)

theorem filt_snoc_no (L : ByteArray → ByteArray) (ks : List (List UInt8)) (k : List UInt8) (h : L ⟨k.toArray⟩ = ByteArray.empty) : filt L (ks ++ [k]) = filt L ks := by
  simp [filt, List.filterMap_append, h]
theorem filt_snoc_yes (L : ByteArray → ByteArray) (ks : List (List UInt8)) (k : List UInt8) (h : ¬ L ⟨k.toArray⟩ = ByteArray.empty) : filt L (ks ++ [k]) = filt L ks ++ [(⟨k.toArray⟩, L ⟨k.toArray⟩)] := by
  simp [filt, List.filterMap_append, h]
theorem filt_mem (L : ByteArray → ByteArray) (ks : List (List UInt8)) (p : ByteArray × ByteArray) : p ∈ filt L ks ↔ ∃ k ∈ ks, ¬ L ⟨k.toArray⟩ = ByteArray.empty ∧ p = (⟨k.toArray⟩, L ⟨k.toArray⟩) := by
  unfold filt
  rw [List.mem_filterMap]
  constructor
  · rintro ⟨k, hk, h⟩
    split at h
    · cases h
    · rename_i hne
      exact ⟨k, hk, hne, (Option.some.inj h).symm⟩
  · rintro ⟨k, hk, hne, rfl⟩
    exact ⟨k, hk, by rw [if_neg hne]⟩
theorem filt_len (L : ByteArray → ByteArray) (ks : List (List UInt8)) : (filt L ks).length ≤ ks.length := List.length_filterMap_le _ _
theorem filt_asc (L : ByteArray → ByteArray) : ∀ (ks : List (List UInt8)), ks.Pairwise (fun x y => x < y) → (filt L ks).Pairwise (fun p q => p.1.data.toList < q.1.data.toList)
  | [], _ => by simp [filt]
  | k :: ks, h => by
    have h' := List.pairwise_cons.1 h
    have i := filt_asc L ks h'.2
    by_cases e : L ⟨k.toArray⟩ = ByteArray.empty
    · have : filt L (k :: ks) = filt L ks := by simp [filt, e]
      rw [this]; exact i
    · have : filt L (k :: ks) = (⟨k.toArray⟩, L ⟨k.toArray⟩) :: filt L ks := by simp [filt, e]
      rw [this, List.pairwise_cons]
      refine ⟨fun p hp => ?_, i⟩
      obtain ⟨k', hk', _, rfl⟩ := (filt_mem L ks p).1 hp
      exact h'.1 k' hk'

/-- What AddressesFrom hands back. -/
structure Res (S : Nat → SlotM) (n : Nat) (L : ByteArray → ByteArray) (E : List (ByteArray × ByteArray)) : Prop where
  addr : ∀ p ∈ E, p.2 ≠ ByteArray.empty ∧ p.2 = L p.1
  asc : E.Pairwise (fun p q => p.1.data.toList < q.1.data.toList)
  all : ∀ x : ByteArray, Named S n x.data.toList → L x ≠ ByteArray.empty → ∃ p ∈ E, p.1 = x
  named : ∀ p ∈ E, Named S n p.1.data.toList
  len : E.length ≤ 1048576

theorem mk_toList (x : ByteArray) : (⟨x.data.toList.toArray⟩ : ByteArray) = x := bytes_ext (by simp)

theorem res_of {w : World} {R : Value → Option (DataW Unit × List MemPlace)} {b k : Nat} {D : DataW Unit} (hown : w.ownsMap Try.prog 9 R b k D) (hk : k ≤ 1048576) {S : Nat → SlotM} {n : Nat} (hkeys : KeysAre D (Named S n)) (L : ByteArray → ByteArray)
    {ss : List (List UInt8)} (hp : ss.Perm (strKeys D)) : Res S n L (filt L (ss.mergeSort (fun x y => decide (x ≤ y)))) := by
  obtain ⟨hnd, hmem⟩ := keys_facts hown
  have hms : ∀ x, x ∈ ss.mergeSort (fun x y => decide (x ≤ y)) ↔ Named S n x := fun x => by
    rw [(List.mergeSort_perm ss _).mem_iff, hp.mem_iff, hmem x, hkeys x]
  have hlen : (ss.mergeSort (fun x y => decide (x ≤ y))).length ≤ 1048576 := by
    rw [(List.mergeSort_perm ss _).length_eq, hp.length_eq]
    have := hown.size_le
    obtain ⟨es, rfl, _⟩ := hown.tidy keyed9
    rw [Maps.size_eq] at this
    show (es.map _).length ≤ _
    rw [List.length_map]
    omega
  refine ⟨fun p hp' => ?_, filt_asc L _ (sorted_asc ss (hp.nodup_iff.2 hnd)), fun x hx hL => ?_, fun p hp' => ?_, Nat.le_trans (filt_len L _) hlen⟩
  · obtain ⟨k', _, h1, rfl⟩ := (filt_mem L _ p).1 hp'
    exact ⟨h1, rfl⟩
  · refine ⟨(x, L x), (filt_mem L _ _).2 ⟨x.data.toList, (hms _).2 hx, ?_, ?_⟩, rfl⟩
    · rw [mk_toList]; exact hL
    · rw [mk_toList]
  · obtain ⟨k', hk', h1, rfl⟩ := (filt_mem L _ p).1 hp'
    exact (hms _).1 hk'

/-- The cells of the entries. -/
def cellsE (E : List (ByteArray × ByteArray)) : List Value := E.flatMap fun p => [.string p.1, .string p.2]
theorem cellsE_snoc (E : List (ByteArray × ByteArray)) (p : ByteArray × ByteArray) : cellsE (E ++ [p]) = cellsE E ++ [.string p.1, .string p.2] := by simp [cellsE]
theorem cellsE_len (E : List (ByteArray × ByteArray)) : (cellsE E).length = E.length * 2 := by
  induction E with
  | nil => rfl
  | cons p E ih => simp only [cellsE, List.flatMap_cons, List.length_append, List.length_cons, List.length_nil] at ih ⊢; omega
theorem cellsE_at : ∀ (E : List (ByteArray × ByteArray)) (i : Nat), i < E.length → (cellsE E)[i * 2]? = some (.string (E.getD i (ByteArray.empty, ByteArray.empty)).1) ∧ (cellsE E)[i * 2 + 1]? = some (.string (E.getD i (ByteArray.empty, ByteArray.empty)).2)
  | [], i, h => by simp at h
  | p :: E, 0, _ => by simp [cellsE]
  | p :: E, i + 1, h => by
    have := cellsE_at E i (by simpa using h)
    simp only [cellsE, List.flatMap_cons, List.getD_cons_succ] at this ⊢
    rw [show (i + 1) * 2 = i * 2 + 2 by omega, show i * 2 + 2 + 1 = i * 2 + 1 + 2 by omega]
    simpa using this
end Go.Proofs.Qxb6609165a
