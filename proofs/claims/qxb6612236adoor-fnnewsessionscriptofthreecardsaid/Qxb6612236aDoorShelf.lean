/-
  strconv.Itoa by the shelf's contract, laid at this dump (written by the kit's lay-plain.mjs; cut to the one laying that the proofs use).
-/
import Derived.Shelf.LaysM
import Derived.Shelf.Strconv.Itoa3
import Derived.Test.Qxb6612236aDoorRows
import Derived.Lib.LaidTab
import Derived.Lib.ItoaMem
import Derived.WalkSmall
namespace Go.Proofs.Qxb6612236aDoor
open Go Go.Shelf
def Tryd.laysM171_ren : Go.Shelf.Ren := ⟨fun | 171 => 11 | 243 => 12 | 246 => 13 | 283 => 14 | 284 => 15 | 285 => 16 | 286 => 17 | 129 => 19 | 317 => 18 | 318 => 20 | 319 => 21 | 320 => 22 | 337 => 23 | 338 => 24 | n => n, fun | 3 => 3 | 9 => 9 | 2 => 2 | 4 => 4 | 171 => 30 | 0 => 0 | 53 => 33 | 37 => 31 | 5 => 5 | 173 => 36 | 212 => 40 | 51 => 41 | 20 => 20 | 213 => 42 | 46 => 44 | 232 => 47 | 233 => 48 | n => n, fun | 17 => 0 | 18 => 1 | 19 => 2 | n => n⟩
theorem Tryd.laysM171 : Go.Proofs.LaysM.n171 Tryd.prog Tryd.laysM171_ren := {
  mixed := by kernel_rfl
  f129 := Tryd.func19.trans (congrArg some (by kernel_rfl))
  f171 := Tryd.func11.trans (congrArg some (by kernel_rfl))
  f243 := Tryd.func12.trans (congrArg some (by kernel_rfl))
  f246 := Tryd.func13.trans (congrArg some (by kernel_rfl))
  f283 := Tryd.func14.trans (congrArg some (by kernel_rfl))
  f284 := Tryd.func15.trans (congrArg some (by kernel_rfl))
  f285 := Tryd.func16.trans (congrArg some (by kernel_rfl))
  f286 := Tryd.func17.trans (congrArg some (by kernel_rfl))
  f317 := Tryd.func18.trans (congrArg some (by kernel_rfl))
  f318 := Tryd.func20.trans (congrArg some (by kernel_rfl))
  f319 := Tryd.func21.trans (congrArg some (by kernel_rfl))
  f320 := Tryd.func22.trans (congrArg some (by kernel_rfl))
  f337 := Tryd.func23.trans (congrArg some (by kernel_rfl))
  f338 := Tryd.func24.trans (congrArg some (by kernel_rfl))
  t0 := Tryd.underlying0
  a0 := Tryd.isAgg0
  z0 := Tryd.sizeOf0
  v0 := Tryd.zeroValue0
  t2 := Tryd.underlying2
  a2 := Tryd.isAgg2
  z2 := Tryd.sizeOf2
  v2 := Tryd.zeroValue2
  t3 := Tryd.underlying3
  a3 := Tryd.isAgg3
  z3 := Tryd.sizeOf3
  v3 := Tryd.zeroValue3
  t4 := Tryd.underlying4
  a4 := Tryd.isAgg4
  z4 := Tryd.sizeOf4
  v4 := Tryd.zeroValue4
  t5 := Tryd.underlying5
  a5 := Tryd.isAgg5
  z5 := Tryd.sizeOf5
  v5 := Tryd.zeroValue5
  t9 := Tryd.underlying9
  a9 := Tryd.isAgg9
  z9 := Tryd.sizeOf9
  v9 := Tryd.zeroValue9
  t20 := Tryd.underlying20
  a20 := Tryd.isAgg20
  z20 := Tryd.sizeOf20
  v20 := Tryd.zeroValue20
  t37 := Tryd.underlying31
  a37 := Tryd.isAgg31
  z37 := Tryd.sizeOf31
  v37 := Tryd.zeroValue31
  t46 := Tryd.underlying44
  a46 := Tryd.isAgg44
  z46 := Tryd.sizeOf44
  v46 := Tryd.zeroValue44
  t51 := Tryd.underlying41
  a51 := Tryd.isAgg41
  z51 := Tryd.sizeOf41
  v51 := Tryd.zeroValue41
  t53 := Tryd.underlying33
  a53 := Tryd.isAgg33
  z53 := Tryd.sizeOf33
  v53 := Tryd.zeroValue33
  t171 := Tryd.underlying30
  a171 := Tryd.isAgg30
  z171 := Tryd.sizeOf30
  v171 := Tryd.zeroValue30
  t173 := Tryd.underlying36
  a173 := Tryd.isAgg36
  z173 := Tryd.sizeOf36
  v173 := Tryd.zeroValue36
  t212 := Tryd.underlying40
  a212 := Tryd.isAgg40
  z212 := Tryd.sizeOf40
  v212 := Tryd.zeroValue40
  t213 := Tryd.underlying42
  a213 := Tryd.isAgg42
  z213 := Tryd.sizeOf42
  t232 := Tryd.underlying47
  a232 := Tryd.isAgg47
  z232 := Tryd.sizeOf47
  v232 := Tryd.zeroValue47
  t233 := Tryd.underlying48
  a233 := Tryd.isAgg48
  z233 := Tryd.sizeOf48
  v233 := Tryd.zeroValue48
  g17 := by kernel_rfl
  g18 := by kernel_rfl
  g19 := by kernel_rfl
  i0 := by kernel_rfl
  i2 := by kernel_rfl
  i3 := by kernel_rfl
  i4 := by kernel_rfl
  i5 := by kernel_rfl
  i9 := by kernel_rfl
  i20 := by kernel_rfl
  i37 := by kernel_rfl
  i46 := by kernel_rfl
  i51 := by kernel_rfl
  i53 := by kernel_rfl
  i171 := by kernel_rfl
  i173 := by kernel_rfl
  i212 := by kernel_rfl
  i232 := by kernel_rfl
  i233 := by kernel_rfl
  m17 := by kernel_rfl
  m18 := by kernel_rfl
  m19 := by kernel_rfl }
open Go.RowKit Go.Sort Go.Lib in

/-- The name of the table that strconv.Itoa reads. -/
def powName : String := Rows.fnNewSessionIsFirstFreeNameRow.named.getD 0 ""
theorem below_grow (w : World) (q : Nat) (os : Array Obj) : RowKit.Below w.heap.size w (Sort.grow (w.drewN q) os) := by
  refine ⟨rfl, rfl, rfl, ?_, fun k hk => ?_⟩
  · show w.heap.size ≤ ((w.drewN q).heap ++ os).size
    rw [Array.size_append]
    exact Nat.le_add_right _ _
  · show ((w.drewN q).heap ++ os)[k]? = _
    rw [Array.getElem?_append_left (show k < (w.drewN q).heap.size from hk)]
    rfl
/-- strconv.Itoa at a natural number: the decimal numeral; nothing old has turned. -/
theorem itoa_any (n : Nat) (h1 : n ≤ 9223372036854775807) (w : World) (htab : Lib.TabIs Tryd.prog w powName .u64 Lib.pow10Tab) :
    Calls Tryd.prog 11 #[.int .i64 n] w fun e w' => e = .returned (.string ⟨(Lib.decDigits n).toArray⟩) ∧ RowKit.Below w.heap.size w w' :=
  (Any.strconv_Itoa Tryd.laysM171 n (by omega) (by omega) w htab).mono (by
    rintro e w' ⟨rfl, k, os, rfl⟩
    rw [Lib.itoa_nonneg]
    exact ⟨rfl, below_grow w k os⟩)
/-- The table stays while nothing old turns. -/
theorem tab_below {w w' : World} (hb : RowKit.Below w.heap.size w w') (h : Lib.TabIs Tryd.prog w powName .u64 Lib.pow10Tab) : Lib.TabIs Tryd.prog w' powName .u64 Lib.pow10Tab := by
  have hg : Tryd.prog.globalNamed powName = some 0 := by kernel_rfl
  have hlt : 0 < w.heap.size := by
    have h0 := h
    unfold Lib.TabIs World.var? at h0
    rw [hg] at h0
    simp only [Option.bind_some] at h0
    rcases Nat.lt_or_ge 0 w.heap.size with hl | hl
    · exact hl
    · rw [Array.getElem?_eq_none hl] at h0
      cases h0
  exact var?_below hb hg hlt h
end Go.Proofs.Qxb6612236aDoor
