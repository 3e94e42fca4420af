/-
  Plain facts for the seat b6612236aD: the decimal numeral and the names 'base', 'base2', 'base3', ..; no Go in sight.
-/
import Derived.Lib.ItoaMem
import Derived.Maps.OwnSet
namespace Go.Proofs.Qxb6612236aDoor
open Go Go.Maps

/-- The value of a row of digits read from the left. -/
def dval (l : List UInt8) : Nat := l.foldl (fun n c => n * 10 + (c.toNat - 48)) 0

theorem dval_snoc (l : List UInt8) (c : UInt8) : dval (l ++ [c]) = dval l * 10 + (c.toNat - 48) := by
  simp [dval, List.foldl_append]

theorem toNat_dig (n : Nat) (h : n < 10) : (UInt8.ofNat (48 + n)).toNat = 48 + n := by
  rw [UInt8.toNat_ofNat']; omega

theorem decDigits_small {u : Nat} (h : u < 10) : Lib.decDigits u = [UInt8.ofNat (48 + u)] := by rw [Lib.decDigits, dif_pos h]
theorem decDigits_big {u : Nat} (h : ¬ u < 10) : Lib.decDigits u = Lib.decDigits (u / 10) ++ [UInt8.ofNat (48 + u % 10)] := by rw [Lib.decDigits, dif_neg h]

theorem dec_all : ∀ (f u : Nat), u < f → dval (Lib.decDigits u) = u ∧ (∀ c ∈ Lib.decDigits u, 48 ≤ c.toNat ∧ c.toNat ≤ 57) ∧ (Lib.decDigits u) ≠ [] ∧ (1 ≤ u → ∀ x ∈ (Lib.decDigits u).head?, x.toNat ≠ 48)
  | 0, u, h => by omega
  | f + 1, u, h => by
    by_cases hs : u < 10
    · rw [decDigits_small hs]
      refine ⟨by rw [show [UInt8.ofNat (48 + u)] = [] ++ [UInt8.ofNat (48 + u)] from rfl, dval_snoc, toNat_dig u hs]; simp [dval], ?_, by simp, ?_⟩
      · intro c hc
        simp only [List.mem_singleton] at hc
        rw [hc, toNat_dig u hs]
        omega
      · intro h1 x hx
        simp only [List.head?_cons, Option.mem_def, Option.some.injEq] at hx
        rw [← hx, toNat_dig u hs]
        omega
    · obtain ⟨i1, i2, i3, i4⟩ := dec_all f (u / 10) (by omega)
      have hd : u % 10 < 10 := by omega
      rw [decDigits_big hs]
      refine ⟨?_, ?_, by simp, ?_⟩
      · rw [dval_snoc, i1, toNat_dig _ hd]
        omega
      · intro c hc
        rw [List.mem_append, List.mem_singleton] at hc
        rcases hc with hc | hc
        · exact i2 c hc
        · rw [hc, toNat_dig _ hd]
          omega
      · intro _ x hx
        refine i4 (by omega) x ?_
        rw [List.head?_append] at hx
        cases hl : (Lib.decDigits (u / 10)) with
        | nil => exact absurd hl i3
        | cons a r => rw [hl] at hx; simpa using hx

theorem dval_dec (u : Nat) : dval (Lib.decDigits u) = u := (dec_all (u + 1) u (by omega)).1
theorem dec_range (u : Nat) : ∀ c ∈ Lib.decDigits u, 48 ≤ c.toNat ∧ c.toNat ≤ 57 := (dec_all (u + 1) u (by omega)).2.1
theorem dec_ne_nil (u : Nat) : Lib.decDigits u ≠ [] := (dec_all (u + 1) u (by omega)).2.2.1
theorem dec_head (u : Nat) (h : 1 ≤ u) : ∀ x ∈ (Lib.decDigits u).head?, x.toNat ≠ 48 := (dec_all (u + 1) u (by omega)).2.2.2 h
theorem dec_inj {u v : Nat} (h : Lib.decDigits u = Lib.decDigits v) : u = v := by rw [← dval_dec u, h, dval_dec]
theorem dec_pos (u : Nat) : 1 ≤ (Lib.decDigits u).length := by
  cases h : Lib.decDigits u with
  | nil => exact absurd h (dec_ne_nil u)
  | cons a r => simp

/-- A number below ten to the fifth has at most five digits. -/
theorem dec_len5 (u : Nat) (h : u < 100000) : (Lib.decDigits u).length ≤ 5 := by
  have key : ∀ (f u : Nat), u < 10 ^ f → (Lib.decDigits u).length ≤ max 1 f := by
    intro f
    induction f with
    | zero => intro u hu; rw [decDigits_small (by omega)]; simp
    | succ f ih =>
      intro u hu
      by_cases hs : u < 10
      · rw [decDigits_small hs]; simp
      · rw [decDigits_big hs, List.length_append, List.length_singleton]
        have hf : f ≠ 0 := by rintro rfl; omega
        have := ih (u / 10) (by rw [Nat.pow_succ] at hu; omega)
        omega
  simpa using key 5 u (by omega)

/-- The names in the order in which they are tried: 'b', 'b2', 'b3', .. -/
def cand (b : List UInt8) (k : Nat) : List UInt8 := if k ≤ 1 then b else b ++ Lib.decDigits k

theorem cand_one (b : List UInt8) : cand b 1 = b := by simp [cand]
theorem cand_more (b : List UInt8) {k : Nat} (h : 2 ≤ k) : cand b k = b ++ Lib.decDigits k := by rw [cand, if_neg (by omega)]

theorem cand_inj (b : List UInt8) {j k : Nat} (hj : 1 ≤ j) (hk : 1 ≤ k) (h : cand b j = cand b k) : j = k := by
  by_cases h1 : j ≤ 1
  · by_cases h2 : k ≤ 1
    · omega
    · have := congrArg List.length h
      rw [cand, if_pos h1, cand, if_neg h2, List.length_append] at this
      have := dec_pos k
      omega
  · by_cases h2 : k ≤ 1
    · have := congrArg List.length h
      rw [cand, if_neg h1, cand, if_pos h2, List.length_append] at this
      have := dec_pos j
      omega
    · rw [cand, if_neg h1, cand, if_neg h2] at h
      exact dec_inj (List.append_cancel_left h)

theorem cand_length (b : List UInt8) (k : Nat) (hk : k < 100000) : (cand b k).length ≤ b.length + 5 := by
  unfold cand
  split
  · omega
  · have := dec_len5 k hk
    rw [List.length_append]
    omega

/-- Distinct keys that a map has are no more than its entries. -/
theorem keys_le {H : Type} : ∀ (ks : List Lit) (D : DataW H), Tidy D → ks.Nodup → (∀ k ∈ ks, Maps.has D k = true) → ks.length ≤ Maps.size D
  | [], _, _, _, _ => Nat.zero_le _
  | k :: ks, D, t, nd, h => by
    have e := size_del (k := k) t
    rw [h k (by simp), if_pos rfl] at e
    have nd' := List.nodup_cons.1 nd
    have := keys_le ks (D.del k) (t.del k) nd'.2 (fun k' hk' => by
      rw [has_del_other (by rintro rfl; exact nd'.1 hk')]
      exact h k' (by simp [hk']))
    simp only [List.length_cons]
    omega

/-- What 'named[s]' answers. -/
def isT {H : Type} (D : DataW H) (s : List UInt8) : Bool :=
  match D.atKey (.string s) (.lit (.bool false)) with
  | .lit (.bool x) => x
  | _ => false

theorem has_of_isT {H : Type} {D : DataW H} {s : List UInt8} (h : isT D s = true) : Maps.has D (.string s) = true := by
  cases e : Maps.has D (.string s) with
  | true => rfl
  | false =>
    rw [isT, atKey_of_not_has e] at h
    exact h

/-- The names that are taken one after the other are no more than the map's entries. -/
theorem taken_le {H : Type} {D : DataW H} (t : Tidy D) (b : List UInt8) (k : Nat) (h : ∀ j, 1 ≤ j → j ≤ k → isT D (cand b j) = true) : k ≤ Maps.size D := by
  have e := keys_le ((List.range k).map fun j => Lit.string (cand b (j + 1))) D t ?_ ?_
  · simpa using e
  · rw [List.nodup_iff_pairwise_ne, List.pairwise_map]
    refine List.Pairwise.imp_of_mem ?_ List.pairwise_lt_range
    intro i j _ _ hij he
    simp only [Lit.string.injEq] at he
    have := cand_inj b (by omega) (by omega) he
    omega
  · intro x hx
    rw [List.mem_map] at hx
    obtain ⟨j, hj, rfl⟩ := hx
    rw [List.mem_range] at hj
    exact has_of_isT (h (j + 1) (by omega) (by omega))
end Go.Proofs.Qxb6612236aDoor
