/-
  HOW THE SET LIES IN MEMORY.
-/
import Derived.Test.Qxb6618180aRows
import Derived.Test.Qxb6618180aPlain
import Derived.WalkKit
import Derived.WalkSpells
import Derived.WalkLawsBesides
import Derived.WideShapes
import Derived.Below
import Derived.Laws.BitsAllLaws
import Derived.Maps.OwnSet
namespace Go.Proofs.Qxb6618180a
open Go.RowKit Go.WideShapes
set_option linter.unusedVariables false

theorem hid {p : Prop} (h : p) : Hid p := h

/-- The words as they lie in cells. -/
def cellsOf (ws : List Nat) : List Value := ws.map fun (x : Nat) => Value.int .u64 (x : Int)

theorem cellsOf_length (ws : List Nat) : (cellsOf ws).length = ws.length := by simp [cellsOf]
theorem cellsOf_get (ws : List Nat) (j : Nat) (h : j < ws.length) : (cellsOf ws)[j]? = some (.int .u64 (ws.getD j 0 : Nat)) := by
  simp [cellsOf, List.getD_eq_getElem?_getD, List.getElem?_eq_getElem h]
theorem cellsOf_append (a b : List Nat) : cellsOf (a ++ b) = cellsOf a ++ cellsOf b := by simp [cellsOf]
theorem cellsOf_set (a : List Nat) (i v : Nat) : (cellsOf a).set i (.int .u64 (v : Int)) = cellsOf (a.set i v) := by simp [cellsOf, List.map_set]
theorem cellsOf_zeros (k : Nat) : cellsOf (List.replicate k 0) = List.replicate k (.int .u64 0) := by simp [cellsOf]

theorem getD_lt {ws : List Nat} (h : ∀ v ∈ ws, v < 18446744073709551616) (j : Nat) : ws.getD j 0 < 18446744073709551616 := by
  rw [List.getD_eq_getElem?_getD]
  cases e : ws[j]? with
  | none => decide
  | some u => exact h u (List.mem_of_getElem? e)

/-! ### THE MAP: its keys as a test on integers -/
theorem law47 : Maps.Keyed Try.prog 47 := Maps.int_keyed Try.underlying47
theorem zero60 (w : World) : (zeroValue 60).run Try.prog w = .ok (.agg #[]) w := by kernel_rfl

/-- Is the number k a key? -/
def sp (D : DataW Unit) (k : Int) : Bool := Maps.has D (.int .i64 k)
/-- How many keys. -/
def sz (D : DataW Unit) : Nat := Maps.size D
/-- What every element reads as. -/
def unitD : DataW Unit := .agg []

theorem int_ne {x k : Int} (h : k ≠ x) : (Lit.int .i64 k) ≠ (Lit.int .i64 x) := fun e => h (by cases e; rfl)

theorem sp_empty (k : Int) : sp (.map []) k = false := rfl
theorem sz_empty : sz (.map []) = 0 := rfl

theorem sp_put {D : DataW Unit} (hD : Maps.Tidy D) (x k : Int) : sp (D.put (.int .i64 x) unitD) k = (sp D k || (k == x)) := by
  unfold sp
  by_cases h : k = x
  · subst h
    rw [Maps.has_put_same hD.isMap (k := .int .i64 k) trivial]; simp
  · rw [Maps.has_put_other (int_ne h)]
    have : (k == x) = false := beq_eq_false_iff_ne.2 h
    rw [this, Bool.or_false]

theorem sp_del {D : DataW Unit} (x k : Int) : sp (D.del (.int .i64 x)) k = (sp D k && !(k == x)) := by
  unfold sp
  by_cases h : k = x
  · subst h
    rw [Maps.has_del_same]; simp
  · rw [Maps.has_del_other (int_ne h)]
    have : (k == x) = false := beq_eq_false_iff_ne.2 h
    rw [this]; simp

theorem sz_put {D : DataW Unit} (hD : Maps.Tidy D) (x : Int) : sz (D.put (.int .i64 x) unitD) = if sp D x then sz D else sz D + 1 := Maps.size_put hD _
theorem sz_del {D : DataW Unit} (hD : Maps.Tidy D) (x : Int) (h : sp D x = true) : sz (D.del (.int .i64 x)) + 1 = sz D := by
  have := Maps.size_del (k := .int .i64 x) hD
  unfold sp at h
  rw [h] at this
  exact this

/-- THE FIELD 'sparse': nil, or a map of the call's own; it reads as D. -/
def InMap (w : World) (B : Nat) (mo : Option Nat) (D : DataW Unit) : Prop :=
  (mo = none ∧ D = .map []) ∨ ∃ mb, mo = some mb ∧ B ≤ mb ∧ w.ownsMap Try.prog 47 unitElem mb (sz D) D

theorem InMap.tidy {w : World} {B : Nat} {mo : Option Nat} {D : DataW Unit} (h : InMap w B mo D) : Maps.Tidy D := by
  rcases h with ⟨_, rfl⟩ | ⟨mb, _, _, h⟩
  · exact Maps.tidy_empty
  · exact h.tidy law47

/-- THE SET's OWN BLOCK: its three fields. -/
def Str (w : World) (sb : Nat) (v0 v1 v2 : Value) : Prop := w.heap[sb]? = some (.cells #[v0, v1, v2] 57 (0, 0))

theorem Str.c0 {w : World} {sb : Nat} {v0 v1 v2 : Value} (h : Str w sb v0 v1 v2) : w.cell? ⟨sb, 0, none⟩ = some v0 := by rw [cell_of_row w sb 0 _ 57 _ h]; rfl
theorem Str.c1 {w : World} {sb : Nat} {v0 v1 v2 : Value} (h : Str w sb v0 v1 v2) : w.cell? ⟨sb, 1, none⟩ = some v1 := by rw [cell_of_row w sb 1 _ 57 _ h]; rfl
theorem Str.c2 {w : World} {sb : Nat} {v0 v1 v2 : Value} (h : Str w sb v0 v1 v2) : w.cell? ⟨sb, 2, none⟩ = some v2 := by rw [cell_of_row w sb 2 _ 57 _ h]; rfl
theorem Str.fr {w : World} {sb : Nat} {v0 v1 v2 : Value} (h : Str w sb v0 v1 v2) (j : Nat) : w.frozen? ⟨sb, j, none⟩ = false := frozen_of_row w sb j _ 57 h
theorem Str.lt {w : World} {sb : Nat} {v0 v1 v2 : Value} (h : Str w sb v0 v1 v2) : sb < w.heap.size := (Array.getElem?_eq_some_iff.1 h).1
theorem Str.set0 {w : World} {sb : Nat} {v0 v1 v2 : Value} (h : Str w sb v0 v1 v2) (u : Value) : Str (w.setCell ⟨sb, 0, none⟩ u) sb u v1 v2 := heap_setCell_same w sb 0 _ 57 u h
theorem Str.set1 {w : World} {sb : Nat} {v0 v1 v2 : Value} (h : Str w sb v0 v1 v2) (u : Value) : Str (w.setCell ⟨sb, 1, none⟩ u) sb v0 u v2 := heap_setCell_same w sb 1 _ 57 u h
theorem Str.set2 {w : World} {sb : Nat} {v0 v1 v2 : Value} (h : Str w sb v0 v1 v2) (u : Value) : Str (w.setCell ⟨sb, 2, none⟩ u) sb v0 v1 u := heap_setCell_same w sb 2 _ 57 u h
theorem Str.kept {w w' : World} {sb : Nat} {v0 v1 v2 : Value} (h : Str w sb v0 v1 v2) {row : Option Nat} (hg : w.grownBy w' row) (hr : some sb ≠ row) : Str w' sb v0 v1 v2 := (hg.block sb h.lt hr).trans h

/-- A map's block is not the set's own. -/
theorem Str.ne_map {w : World} {sb : Nat} {v0 v1 v2 : Value} (h : Str w sb v0 v1 v2) {mb n : Nat} {D : DataW Unit} (hm : w.ownsMap Try.prog 47 unitElem mb n D) : sb ≠ mb := by
  rintro rfl
  obtain ⟨es, clock, hb, _⟩ := hm
  rw [h] at hb
  cases hb

/-- The dense row's block is not the set's own, and no map's. -/
theorem Str.ne_row {w : World} {sb : Nat} {v0 v1 v2 : Value} (h : Str w sb v0 v1 v2) {B g n cap : Nat} {xs : List Value} (hr : w.ownsRow B 59 1 (.slice (some ⟨g, 0, none⟩) n cap) n xs) : sb ≠ g := by
  rintro rfl
  rcases hr.2 with ⟨e, _⟩ | ⟨g', cap', cur, e, _, hg, _⟩
  · cases e
  · cases e
    rw [h] at hg
    cases hg

theorem map_ne_row {w : World} {mb k : Nat} {D : DataW Unit} (hm : w.ownsMap Try.prog 47 unitElem mb k D) {B g n cap : Nat} {xs : List Value} (hr : w.ownsRow B 59 1 (.slice (some ⟨g, 0, none⟩) n cap) n xs) : mb ≠ g := by
  rintro rfl
  obtain ⟨es, clock, hb, _⟩ := hm
  rcases hr.2 with ⟨e, _⟩ | ⟨g', cap', cur, e, _, hg, _⟩
  · cases e
  · cases e
    rw [hb] at hg
    cases hg

/-- w' IS w BUT FOR THE SET's OWN BLOCK AND ITS MAP, AND NEW BLOCKS. -/
structure Turn (w w' : World) (sb : Nat) (mo : Option Nat) : Prop where
  os : w'.os = w.os
  tape : w'.tape = w.tape
  output : w'.output = w.output
  size : w.heap.size ≤ w'.heap.size
  block : ∀ k, k < w.heap.size → k ≠ sb → mo ≠ some k → w'.heap[k]? = w.heap[k]?

theorem Turn.row {w w' : World} {sb : Nat} {mo : Option Nat} {B : Nat} {D : DataW Unit} {v0 v1 v2 : Value} (h : Turn w w' sb mo) (hs : Str w sb v0 v1 v2) (hm : InMap w B mo D) {v : Value} {n : Nat} {xs : List Value} (hr : w.ownsRow B 59 1 v n xs) : w'.ownsRow B 59 1 v n xs := by
  refine ⟨hr.1, ?_⟩
  rcases hr.2 with h' | ⟨g, cap, cur, rfl, hb, hg, rest⟩
  · exact .inl h'
  · refine .inr ⟨g, cap, cur, rfl, hb, ?_, rest⟩
    rw [h.block g (Array.getElem?_eq_some_iff.1 hg).1 (hs.ne_row hr).symm ?_]
    · exact hg
    · rintro rfl
      rcases hm with ⟨e, _⟩ | ⟨mb, e, _, hm⟩
      · cases e
      · cases e
        exact map_ne_row hm hr rfl

theorem Turn.below {w w' : World} {sb : Nat} {mo : Option Nat} {B : Nat} {D : DataW Unit} (h : Turn w w' sb mo) (hB : B ≤ sb) (hm : InMap w B mo D) (hs : B ≤ w.heap.size) : Below B w w' :=
  ⟨h.os, h.tape, h.output, h.size, fun k hk => h.block k (by omega) (by omega) (by
    rcases hm with ⟨rfl, _⟩ | ⟨mb, rfl, hb, _⟩
    · simp
    · simp only [ne_eq, Option.some.injEq]; omega)⟩

/-- The bound on a map's entries may be taken as their very number. -/
theorem tight {w : World} {b n : Nat} {D : DataW Unit} (h : w.ownsMap Try.prog 47 unitElem b n D) : w.ownsMap Try.prog 47 unitElem b (sz D) D := by
  obtain ⟨es, clock, hb, F, _, rfl⟩ := h
  refine ⟨es, clock, hb, F, ?_, rfl⟩
  unfold sz
  rw [Maps.size_eq, length_read]
  exact Nat.le_refl _

end Go.Proofs.Qxb6618180a
