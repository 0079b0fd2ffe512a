/-
  THE CONTRACTS OF THE TWO COPIERS; A SLICE OF INTEGERS AS IT LIES IN MEMORY.
-/
import Derived.Test.Qxb6616964aRows
import Derived.Test.Qxb6616964aPlain
import Derived.WalkKit
import Derived.WalkSpells
import Derived.WalkLawsBesides
import Derived.WideShapes
import Derived.Below
namespace Go.Proofs.Qxb6616964a
open Go.RowKit Go.WideShapes
set_option linter.unusedVariables false

/-- A SLICE OF INTEGERS: it is nil; or it leads to a row of 'cap' cells, the numbers 'zs' (the first 'len' are its elements). -/
def InRow (k : IntKind) (w : World) (a : Option Addr) (len cap : Nat) (zs : List Int) : Prop :=
  (a = none ∧ len = 0 ∧ cap = 0 ∧ zs = []) ∨
  ∃ x, a = some x ∧ len ≤ cap ∧ cap ≤ maxLen ∧ zs.length = cap ∧ (∀ i, i < zs.length → w.cell? (x.add i) = some (.int k (zs.getD i 0))) ∧ ∀ n ∈ zs, (Lit.int k n).wf = true

theorem InRow.len_le {k : IntKind} {w : World} {a : Option Addr} {len cap : Nat} {zs : List Int} (h : InRow k w a len cap zs) : len ≤ zs.length ∧ zs.length ≤ 9223372036854775807 := by
  rcases h with ⟨_, rfl, _, rfl⟩ | ⟨x, _, h1, h2, h3, _⟩
  · simp
  · unfold maxLen at h2; omega

/-- A slice that has elements: where they lie. -/
theorem InRow.at {k : IntKind} {w : World} {a : Option Addr} {len cap : Nat} {zs : List Int} (h : InRow k w a len cap zs) (hp : 0 < len) :
    ∃ b off, a = some ⟨b, off, none⟩ ∧ (∀ i, i < len → w.cell? ⟨b, off + i, none⟩ = some (.int k (zs.getD i 0))) ∧ ∀ i, i < len → (Lit.int k (zs.getD i 0)).wf = true := by
  rcases h with ⟨_, rfl, _⟩ | ⟨⟨b, off, spot⟩, rfl, h1, h2, h3, h4, h5⟩
  · omega
  · have hs : spot = none := by simpa [Addr.add] using World.cell?_spot (h4 0 (by omega))
    subst hs
    refine ⟨b, off, rfl, fun i hi => ?_, fun i hi => h5 _ ?_⟩
    · rw [← add_plain]; exact h4 i (by omega)
    · rw [List.getD_eq_getElem?_getD, List.getElem?_eq_getElem (by omega)]; exact List.getElem_mem _

theorem InRow.below {k : IntKind} {w w' : World} {a : Option Addr} {len cap : Nat} {zs : List Int} (h : InRow k w a len cap zs) {B : Nat} (hb : Below B w w') (hB : w.heap.size ≤ B) : InRow k w' a len cap zs := by
  rcases h with h | ⟨x, e, h1, h2, h3, h4, h5⟩
  · exact .inl h
  · refine .inr ⟨x, e, h1, h2, h3, fun i hi => ?_, h5⟩
    have := h4 i hi
    rw [hb.cell (Nat.lt_of_lt_of_le (World.block_lt_of_cell? w _ this) hB)]
    exact this

theorem Try.info3 : (Try.prog.info? 3).map (fun i => (i.zero, i.size, i.bytes)) = some (some (.int .i64 0), 1, 8) := by kernel_rfl
theorem Try.info21 : (Try.prog.info? 21).map (fun i => (i.zero, i.size, i.bytes)) = some (some (.int .i32 0), 1, 4) := by kernel_rfl

/-- What is owned, as a row. -/
theorem InRow.of_owns {k : IntKind} {w : World} {B e g n : Nat} {zs : List Int} (h : w.ownsRow B e 1 (.slice (some ⟨g, 0, none⟩) n n) n (zs.map (Value.int k))) (hm : n ≤ maxLen) (hw : ∀ z ∈ zs, (Lit.int k z).wf = true) :
    InRow k w (some ⟨g, 0, none⟩) n n zs := by
  have hl : zs.length = n := by have := h.1; simpa using this
  refine .inr ⟨_, rfl, Nat.le_refl _, hm, hl, fun i hi => ?_, hw⟩
  rw [add_plain, Nat.zero_add, h.cellAt i (by omega)]
  simp [List.getElem?_map, List.getElem?_eq_getElem hi, List.getD_eq_getElem?_getD]

/-- ONE STEP OF THE COPY: the first k cells are copied, the rest are 0. -/
def part (kd : IntKind) (zs : List Int) (n k : Nat) : List Value := (zs.take k).map (Value.int kd) ++ List.replicate (n - k) (.int kd 0)
theorem part_zero (kd : IntKind) (zs : List Int) (n : Nat) : part kd zs n 0 = List.replicate n (.int kd 0) := by simp [part]
theorem part_full (kd : IntKind) (zs : List Int) (n : Nat) : part kd zs n n = (zs.take n).map (Value.int kd) := by simp [part]
theorem part_set (kd : IntKind) (zs : List Int) (n k : Nat) (hk : k < n) (hl : n ≤ zs.length) : (part kd zs n k).set k (.int kd (zs.getD k 0)) = part kd zs n (k + 1) := by
  have hlen : ((zs.take k).map (Value.int kd)).length = k := by simp; omega
  unfold part
  rw [List.set_append_right _ _ (by omega), hlen, Nat.sub_self, List.take_succ_eq_append_getElem (by omega)]
  have e : n - k = (n - (k + 1)) + 1 := by omega
  rw [e, List.replicate_succ]
  simp only [List.map_append, List.map_cons, List.map_nil, List.append_assoc, List.cons_append, List.nil_append, List.set_cons_zero]
  rw [List.getD_eq_getElem?_getD, List.getElem?_eq_getElem (show k < zs.length by omega)]
  rfl

set_option maxHeartbeats 1000000 in
/-- zzCloneInts at a slice that has elements. -/
theorem ints_pos (b off len cap : Nat) (zs : List Int) (w : World) (hl : len ≤ zs.length) (hm : len ≤ 1048576) (hp : 0 < len)
    (hc : ∀ i, i < len → w.cell? ⟨b, off + i, none⟩ = some (.int .i64 (zs.getD i 0))) :
    Calls Try.prog 7 #[.slice (some ⟨b, off, none⟩) len cap] w fun e w' => ∃ g, e = .returned (.slice (some ⟨g, 0, none⟩) len len) ∧ w'.ownsRow w.heap.size 3 1 (.slice (some ⟨g, 0, none⟩) len len) len ((zs.take len).map (Value.int .i64)) ∧ Below w.heap.size w w' := by
  have hB : b < w.heap.size := World.block_lt_of_cell? w _ (hc 0 hp)
  obtain ⟨i0, hi, hz0, hz1, hz2⟩ := info_parts Try.info3
  have hnil : ∀ (w : World) (a : Option Addr) (n c n' c' : Nat), (binOp .eql 22 (.slice a n c) (.slice none n' c')).run Try.prog w = .ok (.bool a.isNone) w := fun w a n c n' c' => Lib.run_eql_slice_nil w _ _ a n c n' c' Try.underlying22
  go_enter Try.func7, Try.ntmps7
  go_wp2_with (at_make; refine wpList_make_full _ rfl _ _ 22 rfl w.heap.size 3 i0 (.int .i64 0) 1 Try.underlying22 hi hz0 hz1 .i64 .i64 len len len rfl rfl rfl rfl (by rw [hz2]; omega) (by unfold maxLen; omega) (Nat.le_refl _) ?_; intro w1 hown hgrow)
  have hown1 : w1.ownsRow w.heap.size 3 1 (.slice (some ⟨w.heap.size, 0, none⟩) len len) len (part .i64 zs len 0) := by
    rw [part_zero, ← toList_madeCells_one]; rw [Nat.mul_one] at hown; exact hown
  have hb1 : Below w.heap.size w w1 := (Below.refl _ _).grown hgrow (Nat.le_refl _) (fun k h => by cases h)
  clear hown hgrow hnil
  go_loopw [4] (fun i wr => ∃ k : Nat, k ≤ len ∧ i = .int .i64 k ∧ wr.ownsRow w.heap.size 3 1 (.slice (some ⟨w.heap.size, 0, none⟩) len len) len (part .i64 zs len k) ∧ Below w.heap.size w wr)
    (fun i _ => len - (intOf i).toNat)
  case atStart => exact ⟨0, Nat.zero_le _, rfl, hown1, hb1⟩
  case round =>
    obtain ⟨k, hk, rfl, hown, hbel⟩ := hrel
    clear hown1 hb1
    by_cases hlt : k < len
    · have hcx : wr.cell? ⟨b, off + k, none⟩ = some (.int .i64 (zs.getD k 0)) := (hbel.cell (p := ⟨b, off + k, none⟩) hB).trans (hc k hlt)
      obtain ⟨u, hu⟩ : ∃ u, (part .i64 zs len k)[k]? = some u := ⟨_, List.getElem?_eq_getElem (by have := hown.1; omega)⟩
      have hcw : wr.cell? ⟨w.heap.size, k, none⟩ = some u := by rw [hown.cellAt k (by omega)]; exact hu
      have hfr := hown.frozenAt k
      have hst := (hown.stored k (.int .i64 (zs.getD k 0))).1
      rw [part_set _ _ _ _ hlt hl] at hst
      have R : Below w.heap.size w (wr.setCell ⟨w.heap.size, k, none⟩ (.int .i64 (zs.getD k 0))) := hbel.setCell (Nat.le_refl _) _
      have HR : Hid _ := And.intro hst R
      clear hst R hown hbel hu
      go_wp2
      go_roundw
      case rel => exact ⟨k + 1, by omega, by go_num, by exact HR.out.1, by exact HR.out.2⟩
      case measure => simp [intOf]; omega
    · have hke : k = len := by omega
      subst hke
      go_wp2
      go_ret
      rw [part_full] at hown
      exact ⟨_, rfl, hown, hbel⟩

/-- zzCloneInts, whatever the slice. -/
theorem ints_any (a : Option Addr) (len cap : Nat) (zs : List Int) (w : World) (h : InRow .i64 w a len cap zs) (hm : len ≤ 1048576) :
    Calls Try.prog 7 #[.slice a len cap] w fun e w' => ∃ a', e = .returned (.slice a' len len) ∧ InRow .i64 w' a' len len (zs.take len) ∧ Below w.heap.size w w' := by
  by_cases hp : 0 < len
  · obtain ⟨b, off, rfl, hc, hwf⟩ := h.at hp
    refine (ints_pos b off len cap zs w h.len_le.1 hm hp hc).mono fun e w' => ?_
    rintro ⟨g, rfl, hown, hb⟩
    refine ⟨_, rfl, InRow.of_owns hown (by unfold maxLen; omega) (fun z hz => ?_), hb⟩
    obtain ⟨i, hi, rfl⟩ := List.mem_iff_getElem.1 hz
    have := hwf i (by simp at hi; omega)
    rw [List.getElem_take]
    rwa [List.getD_eq_getElem?_getD, List.getElem?_eq_getElem (by simp at hi; omega)] at this
  · have h0 : len = 0 := by omega
    subst h0
    have hnil : ∀ (w : World) (a : Option Addr) (n c n' c' : Nat), (binOp .eql 22 (.slice a n c) (.slice none n' c')).run Try.prog w = .ok (.bool a.isNone) w := fun w a n c n' c' => Lib.run_eql_slice_nil w _ _ a n c n' c' Try.underlying22
    cases a with
    | none =>
      go_enter Try.func7, Try.ntmps7
      go_wp2
      go_ret
      exact ⟨none, rfl, .inl ⟨rfl, rfl, rfl, rfl⟩, Below.refl _ _⟩
    | some x =>
      obtain ⟨i0, hi, hz0, hz1, hz2⟩ := info_parts Try.info3
      go_enter Try.func7, Try.ntmps7
      go_wp2_with (at_make; refine wpList_make_full _ rfl _ _ 22 rfl w.heap.size 3 i0 (.int .i64 0) 1 Try.underlying22 hi hz0 hz1 .i64 .i64 0 0 0 rfl rfl rfl rfl (by rw [hz2]; omega) (by unfold maxLen; omega) (Nat.le_refl _) ?_; intro w1 hown hgrow)
      have hb1 : Below w.heap.size w w1 := (Below.refl _ _).grown hgrow (Nat.le_refl _) (fun k h => by cases h)
      refine wp_loop_rounds 1 ?_
      rw [rounds_succ]
      go_wp2
      go_ret
      exact ⟨_, rfl, .inr ⟨_, rfl, Nat.le_refl _, by unfold maxLen; omega, by simp, fun i h => by simp at h, fun n h => by simp at h⟩, hb1⟩

set_option maxHeartbeats 1000000 in
/-- zzCloneInt32s at a slice that has elements. -/
theorem ints32_pos (b off len cap : Nat) (zs : List Int) (w : World) (hl : len ≤ zs.length) (hm : len ≤ 1048576) (hp : 0 < len)
    (hc : ∀ i, i < len → w.cell? ⟨b, off + i, none⟩ = some (.int .i32 (zs.getD i 0))) :
    Calls Try.prog 8 #[.slice (some ⟨b, off, none⟩) len cap] w fun e w' => ∃ g, e = .returned (.slice (some ⟨g, 0, none⟩) len len) ∧ w'.ownsRow w.heap.size 21 1 (.slice (some ⟨g, 0, none⟩) len len) len ((zs.take len).map (Value.int .i32)) ∧ Below w.heap.size w w' := by
  have hB : b < w.heap.size := World.block_lt_of_cell? w _ (hc 0 hp)
  obtain ⟨i0, hi, hz0, hz1, hz2⟩ := info_parts Try.info21
  have hnil : ∀ (w : World) (a : Option Addr) (n c n' c' : Nat), (binOp .eql 23 (.slice a n c) (.slice none n' c')).run Try.prog w = .ok (.bool a.isNone) w := fun w a n c n' c' => Lib.run_eql_slice_nil w _ _ a n c n' c' Try.underlying23
  go_enter Try.func8, Try.ntmps8
  go_wp2_with (at_make; refine wpList_make_full _ rfl _ _ 23 rfl w.heap.size 21 i0 (.int .i32 0) 1 Try.underlying23 hi hz0 hz1 .i64 .i64 len len len rfl rfl rfl rfl (by rw [hz2]; omega) (by unfold maxLen; omega) (Nat.le_refl _) ?_; intro w1 hown hgrow)
  have hown1 : w1.ownsRow w.heap.size 21 1 (.slice (some ⟨w.heap.size, 0, none⟩) len len) len (part .i32 zs len 0) := by
    rw [part_zero, ← toList_madeCells_one]; rw [Nat.mul_one] at hown; exact hown
  have hb1 : Below w.heap.size w w1 := (Below.refl _ _).grown hgrow (Nat.le_refl _) (fun k h => by cases h)
  clear hown hgrow hnil
  go_loopw [4] (fun i wr => ∃ k : Nat, k ≤ len ∧ i = .int .i64 k ∧ wr.ownsRow w.heap.size 21 1 (.slice (some ⟨w.heap.size, 0, none⟩) len len) len (part .i32 zs len k) ∧ Below w.heap.size w wr)
    (fun i _ => len - (intOf i).toNat)
  case atStart => exact ⟨0, Nat.zero_le _, rfl, hown1, hb1⟩
  case round =>
    obtain ⟨k, hk, rfl, hown, hbel⟩ := hrel
    clear hown1 hb1
    by_cases hlt : k < len
    · have hcx : wr.cell? ⟨b, off + k, none⟩ = some (.int .i32 (zs.getD k 0)) := (hbel.cell (p := ⟨b, off + k, none⟩) hB).trans (hc k hlt)
      obtain ⟨u, hu⟩ : ∃ u, (part .i32 zs len k)[k]? = some u := ⟨_, List.getElem?_eq_getElem (by have := hown.1; omega)⟩
      have hcw : wr.cell? ⟨w.heap.size, k, none⟩ = some u := by rw [hown.cellAt k (by omega)]; exact hu
      have hfr := hown.frozenAt k
      have hst := (hown.stored k (.int .i32 (zs.getD k 0))).1
      rw [part_set _ _ _ _ hlt hl] at hst
      have R : Below w.heap.size w (wr.setCell ⟨w.heap.size, k, none⟩ (.int .i32 (zs.getD k 0))) := hbel.setCell (Nat.le_refl _) _
      have HR : Hid _ := And.intro hst R
      clear hst R hown hbel hu
      go_wp2
      go_roundw
      case rel => exact ⟨k + 1, by omega, by go_num, by exact HR.out.1, by exact HR.out.2⟩
      case measure => simp [intOf]; omega
    · have hke : k = len := by omega
      subst hke
      go_wp2
      go_ret
      rw [part_full] at hown
      exact ⟨_, rfl, hown, hbel⟩

/-- zzCloneInt32s, whatever the slice. -/
theorem ints32_any (a : Option Addr) (len cap : Nat) (zs : List Int) (w : World) (h : InRow .i32 w a len cap zs) (hm : len ≤ 1048576) :
    Calls Try.prog 8 #[.slice a len cap] w fun e w' => ∃ a', e = .returned (.slice a' len len) ∧ InRow .i32 w' a' len len (zs.take len) ∧ Below w.heap.size w w' := by
  by_cases hp : 0 < len
  · obtain ⟨b, off, rfl, hc, hwf⟩ := h.at hp
    refine (ints32_pos b off len cap zs w h.len_le.1 hm hp hc).mono fun e w' => ?_
    rintro ⟨g, rfl, hown, hb⟩
    refine ⟨_, rfl, InRow.of_owns hown (by unfold maxLen; omega) (fun z hz => ?_), hb⟩
    obtain ⟨i, hi, rfl⟩ := List.mem_iff_getElem.1 hz
    have := hwf i (by simp at hi; omega)
    rw [List.getElem_take]
    rwa [List.getD_eq_getElem?_getD, List.getElem?_eq_getElem (by simp at hi; omega)] at this
  · have h0 : len = 0 := by omega
    subst h0
    have hnil : ∀ (w : World) (a : Option Addr) (n c n' c' : Nat), (binOp .eql 23 (.slice a n c) (.slice none n' c')).run Try.prog w = .ok (.bool a.isNone) w := fun w a n c n' c' => Lib.run_eql_slice_nil w _ _ a n c n' c' Try.underlying23
    cases a with
    | none =>
      go_enter Try.func8, Try.ntmps8
      go_wp2
      go_ret
      exact ⟨none, rfl, .inl ⟨rfl, rfl, rfl, rfl⟩, Below.refl _ _⟩
    | some x =>
      obtain ⟨i0, hi, hz0, hz1, hz2⟩ := info_parts Try.info21
      go_enter Try.func8, Try.ntmps8
      go_wp2_with (at_make; refine wpList_make_full _ rfl _ _ 23 rfl w.heap.size 21 i0 (.int .i32 0) 1 Try.underlying23 hi hz0 hz1 .i64 .i64 0 0 0 rfl rfl rfl rfl (by rw [hz2]; omega) (by unfold maxLen; omega) (Nat.le_refl _) ?_; intro w1 hown hgrow)
      have hb1 : Below w.heap.size w w1 := (Below.refl _ _).grown hgrow (Nat.le_refl _) (fun k h => by cases h)
      refine wp_loop_rounds 1 ?_
      rw [rounds_succ]
      go_wp2
      go_ret
      exact ⟨_, rfl, .inr ⟨_, rfl, Nat.le_refl _, by unfold maxLen; omega, by simp, fun i h => by simp at h, fun n h => by simp at h⟩, hb1⟩

end Go.Proofs.Qxb6616964a
