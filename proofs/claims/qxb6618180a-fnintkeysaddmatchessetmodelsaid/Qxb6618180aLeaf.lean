/-
  THE CONTRACTS OF THE SMALL FUNCTIONS: zzBytes, ZZNewIntKeys, ZZIntKeysParts, addKey.
-/
import Derived.Test.Qxb6618180aRep
import Derived.OpenShut
import Derived.Deep.QuietTactic
import Derived.BigQuiet
import Derived.OwnWalk
import Derived.WalkSmall
import Derived.Carry
namespace Go.Proofs.Qxb6618180a
open Go.RowKit Go.WideShapes Go.Maps
set_option linter.unusedVariables false

set_option maxHeartbeats 400000 in
theorem bytes_any (a1 : Option Addr) (len1 cap1 : Nat) (a2 : Option Addr) (len2 cap2 : Nat) (w : World) (h1 : len1 ≤ 9223372036854775807) (h2 : len2 ≤ 9223372036854775807) :
    Calls Try.prog 21 #[.slice a1 len1 cap1, .slice a2 len2 cap2] w fun e w' => (∃ b, e = .returned (.bool b)) ∧ w = w' := by
  go_enter Try.func21, Try.ntmps21
  go_wp2
  all_goals (go_ret; exact ⟨⟨_, rfl⟩, rfl⟩)

set_option maxHeartbeats 400000 in
theorem new_any (w : World) :
    Calls Try.prog 22 #[] w fun e w' => e = .returned (.pointer (some ⟨w.heap.size, 0, none⟩)) ∧ w' = w.alloc (.cells #[.slice none 0 0, .map none, .int .i64 0] 57) := by
  go_enter Try.func22, Try.ntmps22
  go_wp2
  go_ret
  exact ⟨rfl, rfl⟩

set_option maxHeartbeats 400000 in
theorem parts_any (sb : Nat) (v0 v1 v2 : Value) (w : World) (c0 : w.cell? ⟨sb, 0, none⟩ = some v0) (c1 : w.cell? ⟨sb, 1, none⟩ = some v1) (c2 : w.cell? ⟨sb, 2, none⟩ = some v2) :
    Calls Try.prog 24 #[.pointer (some ⟨sb, 0, none⟩)] w fun e w' => e = .returned (.tuple #[v0, v1, v2]) ∧ ∃ k, w' = w.drewN k := by
  go_enter Try.func24, Try.ntmps24
  go_wp2
  go_quiet (fail)
  go_wp2
  go_ret3
  exact ⟨rfl, _, rfl⟩

/-! ### addKey -/
theorem put_more {D : DataW Unit} (hD : Maps.Tidy D) (key : Int) : decide (Maps.size D < Maps.size (D.put (.int .i64 key) unitD)) = !sp D key := by
  have := sz_put hD key
  unfold sz at this
  rw [this]
  cases sp D key <;> simp

set_option maxHeartbeats 400000 in
/-- The map is there. -/
theorem addKey_some (B sb mb : Nat) (D : DataW Unit) (key : Int) (w : World) (c1 : w.cell? ⟨sb, 1, none⟩ = some (.map (some mb))) (hsb : sb ≠ mb) (hown : w.ownsMap Try.prog 47 unitElem mb (sz D) D) (hk : (Lit.int .i64 key).wf = true) (hn : sz D ≤ 65536) :
    Calls Try.prog 36 #[.pointer (some ⟨sb, 1, none⟩), .int .i64 key] w fun e w' => e = .returned (.bool (!sp D key)) ∧ w'.ownsMap Try.prog 47 unitElem mb (sz (D.put (.int .i64 key) unitD)) (D.put (.int .i64 key) unitD) ∧ w.mapTurned w' mb := by
  have hnil : ∀ (m : Option Nat) (w : World), (binOp .eql 49 (.map m) (.map none)).run Try.prog w = .ok (.bool m.isNone) w := fun m w => run_eql_map_nil w 49 47 60 m Try.underlying49
  go_enter Try.func36, Try.ntmps36
  go_wp2_with (first | (at_len; refine wpList_len_own _ rfl _ 49 rfl 47 60 Try.underlying49 _ mb _ _ rfl (by assumption) ?_) | (at_mapUpdate; refine wpList_mapUpdate_in _ rfl _ _ _ 49 rfl 47 60 law47 Try.underlying49 _ mb (sz D) D rfl hown (by unfold maxLen; omega) _ _ _ rfl rfl (keyOf_int_mk Try.underlying47 hk) unitD [] unitElem_mk ?_; intro w1 hown1 hturn1; have c1' : w1.cell? ⟨sb, 1, none⟩ = some (.map (some mb)) := hturn1.grown.cell c1 (by simpa using hsb)))
  go_ret
  exact ⟨congrArg (fun b => Ending.returned (.bool b)) (put_more (hown.tidy law47) key), tight (by assumption), by assumption⟩

set_option maxHeartbeats 400000 in
/-- The map is nil: one is made. -/
theorem addKey_none (B sb : Nat) (v0 v2 : Value) (key : Int) (w : World) (hs : Str w sb v0 (.map none) v2) (hB : B ≤ w.heap.size) (hk : (Lit.int .i64 key).wf = true) :
    Calls Try.prog 36 #[.pointer (some ⟨sb, 1, none⟩), .int .i64 key] w fun e w' => e = .returned (.bool true) ∧ Str w' sb v0 (.map (some w.heap.size)) v2 ∧ w'.ownsMap Try.prog 47 unitElem w.heap.size (sz (DataW.put (.map []) (.int .i64 key) unitD)) (DataW.put (.map []) (.int .i64 key) unitD) ∧ Turn w w' sb none := by
  have hnil : ∀ (m : Option Nat) (w : World), (binOp .eql 49 (.map m) (.map none)).run Try.prog w = .ok (.bool m.isNone) w := fun m w => run_eql_map_nil w 49 47 60 m Try.underlying49
  have hmm := @run_makeMap Try.prog
  have hlt := hs.lt
  have c1 := hs.c1
  have f1 := hs.fr 1
  have hne : sb ≠ w.heap.size := by omega
  have esz : (w.setCell ⟨sb, 1, none⟩ (.map (some w.heap.size))).heap.size = w.heap.size := by simp [World.setCell]
  have hown0 : ((w.setCell ⟨sb, 1, none⟩ (.map (some w.heap.size))).alloc (.map #[] 0)).ownsMap Try.prog 47 unitElem w.heap.size 0 (.map [] : DataW Unit) := by
    have h := World.ownsMap_made (w.setCell ⟨sb, 1, none⟩ (.map (some w.heap.size))) Try.prog 47 (unitElem (H := Unit))
    rw [esz] at h
    exact h
  have hs1 : Str ((w.setCell ⟨sb, 1, none⟩ (.map (some w.heap.size))).alloc (.map #[] 0)) sb v0 (.map (some w.heap.size)) v2 :=
    (hs.set1 _).kept (World.grownBy_alloc _ _ none) (by simp)
  have d1 := hs1.c1
  have HG : Hid (w.grownBy ((w.setCell ⟨sb, 1, none⟩ (.map (some w.heap.size))).alloc (.map #[] 0)) (some sb)) :=
    ⟨rfl, rfl, rfl, by have h := (World.grownBy_alloc (w.setCell ⟨sb, 1, none⟩ (.map (some w.heap.size))) (.map #[] 0) none).size; rw [esz] at h; exact h, fun k hk hne' => by
      rw [(World.grownBy_alloc (w.setCell ⟨sb, 1, none⟩ (.map (some w.heap.size))) (.map #[] 0) none).block k (by rw [esz]; exact hk) (by simp), heap_setCell_other _ _ _ _ (fun e => hne' (by rw [e]))]⟩
  have HS1 := hid hs1
  clear hs1
  go_enter Try.func36, Try.ntmps36
  go_wp2_with (first | (at_len; refine wpList_len_own _ rfl _ 49 rfl 47 60 Try.underlying49 _ w.heap.size _ _ rfl (by assumption) ?_) | (at_mapUpdate; refine wpList_mapUpdate_in _ rfl _ _ _ 49 rfl 47 60 law47 Try.underlying49 _ w.heap.size 0 (.map []) rfl hown0 (by unfold maxLen; omega) _ _ _ rfl rfl (keyOf_int_mk Try.underlying47 hk) unitD [] unitElem_mk ?_; intro w1 hown1 hturn1; have hs2 := HS1.out.kept hturn1.grown (by simpa using hne); have e1 := hs2.c1))
  go_ret
  refine ⟨congrArg (fun b => Ending.returned (.bool b)) ((put_more Maps.tidy_empty key).trans rfl), by assumption, tight (by assumption), ?_⟩
  have hg := hturn1.grown
  have h0 := HG.out
  exact ⟨hg.os.trans h0.os, hg.tape.trans h0.tape, hg.output.trans h0.output, Nat.le_trans h0.size hg.size, fun k hk hne' _ => (hg.block k (Nat.lt_of_lt_of_le hk h0.size) (by simp; omega)).trans (h0.block k hk (by simpa using hne'))⟩

/-- addKey, whatever the field holds. -/
theorem addKey_any (B sb : Nat) (v0 v2 : Value) (mo : Option Nat) (D : DataW Unit) (key : Int) (w : World) (hs : Str w sb v0 (.map mo) v2) (hm : InMap w B mo D) (hB : B ≤ w.heap.size) (hk : (Lit.int .i64 key).wf = true) (hn : sz D ≤ 65536) :
    Calls Try.prog 36 #[.pointer (some ⟨sb, 1, none⟩), .int .i64 key] w fun e w' => e = .returned (.bool (!sp D key)) ∧ ∃ mo', Str w' sb v0 (.map mo') v2 ∧ InMap w' B mo' (D.put (.int .i64 key) unitD) ∧ Turn w w' sb mo := by
  rcases hm with ⟨rfl, rfl⟩ | ⟨mb, rfl, hb, hown⟩
  · refine (addKey_none B sb v0 v2 key w hs hB hk).mono fun e w' => ?_
    rintro ⟨rfl, h1, h2, h3⟩
    exact ⟨rfl, _, h1, .inr ⟨_, rfl, hB, h2⟩, h3⟩
  · have hne := hs.ne_map hown
    refine (addKey_some B sb mb D key w hs.c1 hne hown hk hn).mono fun e w' => ?_
    rintro ⟨rfl, h1, h2⟩
    have hg := h2.grown
    exact ⟨rfl, _, hs.kept hg (by simpa using hne), .inr ⟨_, rfl, hb, h1⟩, ⟨hg.os, hg.tape, hg.output, hg.size, fun k hk _ h => hg.block k hk (fun e => h e.symm)⟩⟩

end Go.Proofs.Qxb6618180a
