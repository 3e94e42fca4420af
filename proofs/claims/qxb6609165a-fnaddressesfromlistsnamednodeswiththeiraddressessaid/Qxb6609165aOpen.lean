/-
  The arguments opened: slices of slots and of addresses, by index.
-/
import Derived.Test.Qxb6609165aMem
import Derived.Deep.Slices
import Derived.Deep.Strs
import Derived.Deep.Fields
namespace Go.Proofs.Qxb6609165a
open Go Go.RowKit Go.Deep
set_option linter.unusedVariables false

section
variable {H : Type} {enc : TypeId × Value → H} {w : World} {base : Nat} {spare : Nat → Bool} {held : Bool}

theorem block_lt {b o : Nat} {v : Value} (h : w.cell? ⟨b, o, none⟩ = some v) : b < w.heap.size := World.block_lt_of_cell? w ⟨b, o, none⟩ h

/-- A slice of structs whose fields are one cell each: the cells, by element and field. -/
theorem elems_of {t e : TypeId} {fs : Array Field} {k : Nat} (ht : Try.prog.underlying t = some (.slice e)) (he : Try.prog.underlying e = some (.struct fs)) (hone : oneCellFields Try.prog fs = true) (hk : Try.prog.cellsOf e = k) (hle : fs.size ≤ k) (h0 : 0 < fs.size)
    {fuel : Nat} {a : Option Addr} {len cap : Nat} {x : DataW H × List MemPlace} (h : DataW.trod enc Try.prog w base spare held fuel t [.slice a len cap] = some x) :
    (a = none → len = 0) ∧ len ≤ maxLen ∧ (0 < len → ∃ b off, a = some ⟨b, off, none⟩ ∧ b < w.heap.size ∧ ∀ j, j < len → ∀ (i : Nat) (f : Field), fs[i]? = some f → ∃ v y n, w.cell? ⟨b, off + j * k + i, none⟩ = some v ∧ DataW.trod enc Try.prog w base spare held n f.type [v] = some y) := by
  rcases open_slice ht h with ⟨e1, _⟩ | ⟨ad, l, c, m, n, D, Pl, e1, hb, hl, hm, hmm, rfl, hx⟩
  · simp only [List.cons.injEq, Value.slice.injEq, and_true] at e1
    obtain ⟨rfl, rfl, rfl⟩ := e1
    exact ⟨fun _ => rfl, Nat.zero_le _, fun h => by omega⟩
  · simp only [List.cons.injEq, Value.slice.injEq, and_true] at e1
    obtain ⟨rfl, rfl, rfl⟩ := e1
    refine ⟨(fun e => by cases e), by omega, fun hlen => ?_⟩
    have hlm : len ≤ m := by rw [hmm]; split <;> omega
    obtain ⟨b, off, spot⟩ := ad
    have key : ∀ j, j < len → ∀ (i : Nat) (f : Field), fs[i]? = some f → ∃ v y n, w.cell? ((⟨b, off, spot⟩ : Addr).add (j * k + i)) = some v ∧ DataW.trod enc Try.prog w base spare held n f.type [v] = some y := fun j hj i f hf => by
      obtain ⟨cs', h1, h2⟩ := hx j (by omega)
      rw [hk] at h1
      obtain ⟨_, hcl, hcs⟩ := World.cells?_some h1
      obtain ⟨xs, n', _, _, _, hxl, hxf⟩ := DataW.trod_struct he h2
      have hi : i < fs.size := (Array.getElem?_eq_some_iff.1 hf).1
      have ht1 := hxf i f hf
      obtain ⟨ho, hc1⟩ := hone_of hone i f hf
      rw [ho, hc1, take1_drop cs' i (.bool false) (by omega), List.getElem?_eq_getElem (by omega)] at ht1
      have hcell := hcs i (by omega)
      rw [add_add] at hcell
      exact ⟨cs'.getD i (.bool false), _, _, by rw [hcell]; simp [List.getD, show i < cs'.length by omega], ht1⟩
    have hspot : spot = none := by
      obtain ⟨f, hf⟩ : ∃ f, fs[0]? = some f := ⟨fs[0], Array.getElem?_eq_getElem h0⟩
      obtain ⟨v, _, _, hc, _⟩ := key 0 hlen 0 f hf
      simpa [Addr.add] using World.cell?_spot hc
    subst hspot
    refine ⟨b, off, rfl, ?_, fun j hj i f hf => ?_⟩
    · obtain ⟨f, hf⟩ : ∃ f, fs[0]? = some f := ⟨fs[0], Array.getElem?_eq_getElem h0⟩
      obtain ⟨v, _, _, hc, _⟩ := key 0 hlen 0 f hf
      rw [Go.WideShapes.add_plain] at hc
      exact block_lt hc
    · obtain ⟨v, y, n', hc, ht1⟩ := key j hj i f hf
      rw [Go.WideShapes.add_plain, ← Nat.add_assoc] at hc
      exact ⟨v, y, n', hc, ht1⟩

theorem str_of {n : Nat} {v : Value} {y : DataW H × List MemPlace} (h : DataW.trod enc Try.prog w base spare held n 9 [v] = some y) : ∃ s : ByteArray, v = .string s ∧ s.size ≤ maxLen := by
  obtain ⟨s, e, _, hs⟩ := DataW.trod_string Try.underlying9 h
  simp only [List.cons.injEq, and_true] at e
  exact ⟨s, e, hs⟩
theorem int_of {t : TypeId} {k : IntKind} (ht : Try.prog.underlying t = some (.int k)) {n : Nat} {v : Value} {y : DataW H × List MemPlace} (h : DataW.trod enc Try.prog w base spare held n t [v] = some y) : ∃ z, v = .int k z := by
  obtain ⟨z, e, _⟩ := DataW.trod_int ht h
  simp only [List.cons.injEq, and_true] at e
  exact ⟨z, e⟩
theorem slice_of {t e : TypeId} (ht : Try.prog.underlying t = some (.slice e)) {n : Nat} {v : Value} {y : DataW H × List MemPlace} (h : DataW.trod enc Try.prog w base spare held n t [v] = some y) : ∃ a l c, v = .slice a l c := by
  rcases DataW.trod_slice ht h with ⟨e1, _⟩ | ⟨a, l, c, _, _, _, _, e1, _⟩
  · simp only [List.cons.injEq, and_true] at e1
    exact ⟨_, _, _, e1⟩
  · simp only [List.cons.injEq, and_true] at e1
    exact ⟨_, _, _, e1⟩

theorem open_addrs {fuel : Nat} {a : Option Addr} {len cap : Nat} {x : DataW H × List MemPlace} (h : DataW.trod enc Try.prog w base spare held fuel 24 [.slice a len cap] = some x) :
    len ≤ maxLen ∧ ∃ f g : Nat → ByteArray, PairRow w.heap.size w a len f g ∧ ∀ j, j < len → (f j).size ≤ maxLen ∧ (g j).size ≤ maxLen := by
  obtain ⟨_, hl, hE⟩ := elems_of Try.underlying24 Try.underlying66 (by kernel_rfl) (k := 2) (by kernel_rfl) (by decide) (by decide) h
  refine ⟨hl, ?_⟩
  by_cases h0 : 0 < len
  · obtain ⟨b, off, rfl, hb, hc⟩ := hE h0
    obtain ⟨f, hf⟩ := choose_lt (n := len) (p := fun j s => w.cell? ⟨b, off + j * 2, none⟩ = some (.string s) ∧ s.size ≤ maxLen) (fun j hj => by
      obtain ⟨v, y, n, h1, h2⟩ := hc j hj 0 _ rfl
      obtain ⟨s, rfl, hs⟩ := str_of h2
      exact ⟨s, h1, hs⟩)
    obtain ⟨g, hg⟩ := choose_lt (n := len) (p := fun j s => w.cell? ⟨b, off + j * 2 + 1, none⟩ = some (.string s) ∧ s.size ≤ maxLen) (fun j hj => by
      obtain ⟨v, y, n, h1, h2⟩ := hc j hj 1 _ rfl
      obtain ⟨s, rfl, hs⟩ := str_of h2
      exact ⟨s, h1, hs⟩)
    exact ⟨f, g, fun _ _ => ⟨b, off, rfl, hb, fun j hj => ⟨(hf j hj).1, (hg j hj).1⟩⟩, fun j hj => ⟨(hf j hj).2, (hg j hj).2⟩⟩
  · exact ⟨fun _ => ByteArray.empty, fun _ => ByteArray.empty, fun k hk => by omega, fun k hk => by omega⟩

theorem open_notready {fuel : Nat} {a : Option Addr} {len cap : Nat} {x : DataW H × List MemPlace} (h : DataW.trod enc Try.prog w base spare held fuel 39 [.slice a len cap] = some x) :
    len ≤ maxLen ∧ ∃ (f : Nat → ByteArray) (g : Nat → Int), NodeRow w.heap.size w a len f g ∧ ∀ j, j < len → (f j).size ≤ maxLen := by
  obtain ⟨_, hl, hE⟩ := elems_of Try.underlying39 Try.underlying53 (by kernel_rfl) (k := 2) (by kernel_rfl) (by decide) (by decide) h
  refine ⟨hl, ?_⟩
  by_cases h0 : 0 < len
  · obtain ⟨b, off, rfl, hb, hc⟩ := hE h0
    obtain ⟨f, hf⟩ := choose_lt (n := len) (p := fun j s => w.cell? ⟨b, off + j * 2, none⟩ = some (.string s) ∧ s.size ≤ maxLen) (fun j hj => by
      obtain ⟨v, y, n, h1, h2⟩ := hc j hj 0 _ rfl
      obtain ⟨s, rfl, hs⟩ := str_of h2
      exact ⟨s, h1, hs⟩)
    obtain ⟨g, hg⟩ := choose_lt (n := len) (p := fun j (z : Int) => w.cell? ⟨b, off + j * 2 + 1, none⟩ = some (.int .u64 z)) (fun j hj => by
      obtain ⟨v, y, n, h1, h2⟩ := hc j hj 1 _ rfl
      obtain ⟨z, rfl⟩ := int_of Try.underlying22 h2
      exact ⟨z, h1⟩)
    exact ⟨f, g, fun _ _ => ⟨b, off, rfl, hb, fun j hj => ⟨(hf j hj).1, hg j hj⟩⟩, fun j hj => (hf j hj).2⟩
  · exact ⟨fun _ => ByteArray.empty, fun _ => 0, fun k hk => by omega, fun k hk => by omega⟩

theorem open_strings9 {fuel : Nat} {a : Option Addr} {len cap : Nat} {x : DataW H × List MemPlace} (h : DataW.trod enc Try.prog w base spare held fuel 38 [.slice a len cap] = some x) :
    len ≤ maxLen ∧ ∃ (f : Nat → ByteArray), StrRow w.heap.size w a len f ∧ ∀ j, j < len → (f j).size ≤ maxLen := by
  rcases open_strs Try.underlying38 Try.underlying9 (by kernel_rfl) h with ⟨e1, _⟩ | ⟨ad, l, c, m, Sx, e1, hb, hl, hm, hmm, _, hx⟩
  · simp only [List.cons.injEq, Value.slice.injEq, and_true] at e1
    obtain ⟨rfl, rfl, rfl⟩ := e1
    exact ⟨Nat.zero_le _, fun _ => ByteArray.empty, fun k hk => by omega, fun k hk => by omega⟩
  · simp only [List.cons.injEq, Value.slice.injEq, and_true] at e1
    obtain ⟨rfl, rfl, rfl⟩ := e1
    have hlm : len ≤ m := by rw [hmm]; split <;> omega
    refine ⟨by omega, Sx, fun k hk => ?_, fun j hj => (hx j (by omega)).2⟩
    obtain ⟨b, off, spot⟩ := ad
    have hspot : spot = none := by simpa [Addr.add] using World.cell?_spot (hx 0 (by omega)).1
    subst hspot
    refine ⟨b, off, rfl, ?_, fun j hj => ?_⟩
    · have := (hx k (by omega)).1
      rw [Go.WideShapes.add_plain] at this
      exact block_lt this
    · have := (hx j (by omega)).1
      rw [Go.WideShapes.add_plain] at this
      exact this

/-- A slot that holds nothing. -/
def noSlot : SlotM := ⟨0, ByteArray.empty, 0, none, 0, 0, fun _ => ByteArray.empty, none, 0, 0, fun _ => ByteArray.empty, fun _ => 0⟩

theorem open_slots {fuel : Nat} {a : Option Addr} {len cap : Nat} {x : DataW H × List MemPlace} (h : DataW.trod enc Try.prog w base spare held fuel 23 [.slice a len cap] = some x) :
    (a = none → len = 0) ∧ len ≤ maxLen ∧ ∃ S : Nat → SlotM, SlotRow w.heap.size w a len S := by
  obtain ⟨hnil, hl, hE⟩ := elems_of Try.underlying23 Try.underlying41 (by kernel_rfl) (k := 5) (by kernel_rfl) (by decide) (by decide) h
  refine ⟨hnil, hl, ?_⟩
  by_cases h0 : 0 < len
  · obtain ⟨b, off, rfl, hb, hc⟩ := hE h0
    have hin : Inhabited SlotM := ⟨noSlot⟩
    obtain ⟨S, hS⟩ := choose_lt (n := len) (p := fun j s => SlotAt w.heap.size w b (off + j * 5) s) (fun j hj => by
      obtain ⟨v0, _, _, c0, t0⟩ := hc j hj 0 _ rfl
      obtain ⟨v1, _, _, c1, t1⟩ := hc j hj 1 _ rfl
      obtain ⟨v2, _, _, c2, t2⟩ := hc j hj 2 _ rfl
      obtain ⟨v3, _, _, c3, t3⟩ := hc j hj 3 _ rfl
      obtain ⟨v4, _, _, c4, t4⟩ := hc j hj 4 _ rfl
      obtain ⟨id, rfl⟩ := int_of Try.underlying3 t0
      obtain ⟨ld, rfl, hld⟩ := str_of t1
      obtain ⟨ep, rfl⟩ := int_of Try.underlying22 t2
      obtain ⟨fa, fn, fc, rfl⟩ := slice_of Try.underlying38 t3
      obtain ⟨na, nn, nc, rfl⟩ := slice_of Try.underlying39 t4
      obtain ⟨hfl, fs, hfs, hfz⟩ := open_strings9 t3
      obtain ⟨hnl, nf, ng, hns, hnz⟩ := open_notready t4
      unfold maxLen at hld hfl hfz hnl hnz
      exact ⟨⟨id, ld, ep, fa, fn, fc, fs, na, nn, nc, nf, ng⟩, c0, c1, c2, c3, c4, hfs, hns, by simpa using hfl, by simpa using hnl, by simpa using hld, by simpa using hfz, by simpa using hnz⟩)
    exact ⟨S, fun _ _ => ⟨b, off, rfl, hb, fun j hj => hS j hj⟩⟩
  · exact ⟨fun _ => noSlot, fun k hk => by omega⟩
end
end Go.Proofs.Qxb6609165a
