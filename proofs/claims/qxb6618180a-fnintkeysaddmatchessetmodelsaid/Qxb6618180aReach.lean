/-
  THE CONTRACT OF (*intKeys).reach.
-/
import Derived.Test.Qxb6618180aRep
import Derived.OpenShut
import Derived.OwnWalk
import Derived.Test.Qxb6618180aZeros
import Derived.Maps.RangeWalk
namespace Go.Proofs.Qxb6618180a
open Go.RowKit Go.WideShapes Go.Maps
set_option linter.unusedVariables false

/-- The room for n keys, in bits. -/
def roomOf (n : Nat) : Nat := if 1024 ≤ n then 64 * (n + 1) else 65536
theorem room_ge (n : Nat) : 65536 ≤ roomOf n ∧ 64 * (n + 1) ≤ roomOf n ∧ roomOf n ≤ 65536 + 64 * n := by unfold roomOf; split <;> omega
theorem room_walk (n : Nat) : (if 65536 < 64 * ((n : Int) + 1) then 64 * ((n : Int) + 1) else 65536) = (roomOf n : Nat) := by unfold roomOf; split <;> split <;> omega
theorem room_words (n : Nat) : ((roomOf n : Nat) + 63 : Int) / 64 = (roomOf n / 64 : Nat) := by unfold roomOf; split <;> omega
theorem room_mod (n : Nat) : 64 * (roomOf n / 64) = roomOf n := by unfold roomOf; split <;> omega

set_option maxHeartbeats 400000 in
theorem reach_no (sb n : Nat) (a : Option Addr) (len cap : Nat) (mo : Option Nat) (key : Int) (w : World) (hs : Str w sb (.slice a len cap) (.map mo) (.int .i64 n)) (hk : (Lit.int .i64 key).wf = true)
    (hn : n ≤ 4096) (h0 : (roomOf n : Int) ≤ key) :
    Calls Try.prog 35 #[.pointer (some ⟨sb, 0, none⟩), .int .i64 key] w fun e w' => e = .returned (.bool false) ∧ w = w' := by
  have c2 := hs.c2
  have hr := room_walk n
  obtain ⟨R, hR⟩ : ∃ R, R = roomOf n := ⟨_, rfl⟩
  rw [← hR] at hr h0
  clear hR hs hk
  go_enter Try.func35, Try.ntmps35
  go_wp2
  go_ret
  exact ⟨rfl, rfl⟩

theorem Try.info59 : (Try.prog.info? 59).map (fun i => (i.zero, i.size, i.bytes)) = some (some (.int .u64 0), 1, 8) := by kernel_rfl

theorem grownBy_setCell (w : World) (a : Addr) (u : Value) : w.grownBy (w.setCell a u) (some a.block) :=
  ⟨rfl, rfl, rfl, by simp [World.setCell], fun k _ hk => heap_setCell_other w a k u (fun e => hk (by rw [e]))⟩

/-- The set's own block is not the dense row's. -/
theorem own_ne {w : World} {sb : Nat} {v0 v1 v2 : Value} (h : Str w sb v0 v1 v2) {B n cap : Nat} {a : Option Addr} {xs : List Value} (hr : w.ownsRow B 59 1 (.slice a n cap) n xs) : some sb ≠ Value.ownBlock (.slice a n cap) := by
  rcases hr.2 with ⟨e, _⟩ | ⟨g, cap', cur, e, _⟩
  · rw [e]; simp [Value.ownBlock]
  · rw [e] at hr ⊢
    have := h.ne_row hr
    simpa [Value.ownBlock] using this

set_option maxHeartbeats 1000000 in
/-- The map is nil: nothing moves. -/
theorem reach_nil (B sb n : Nat) (a : Option Addr) (len cap : Nat) (ws : List Nat) (key : Int) (w : World) (hs : Str w sb (.slice a len cap) (.map none) (.int .i64 n)) (hown : w.ownsRow B 59 1 (.slice a len cap) len (cellsOf ws))
    (hB : B ≤ w.heap.size) (hsb : B ≤ sb) (hk : (Lit.int .i64 key).wf = true)
    (hn : n ≤ 4096) (hl : len ≤ 8192) (h0 : 64 * (len : Int) ≤ key) (h1 : key < roomOf n) :
    Calls Try.prog 35 #[.pointer (some ⟨sb, 0, none⟩), .int .i64 key] w fun e w' => e = .returned (.bool true) ∧ ∃ g cap' d, w'.ownsRow B 59 1 (.slice (some ⟨g, 0, none⟩) (len + d) cap') (len + d) (cellsOf (ws ++ List.replicate d 0)) ∧
      Str w' sb (.slice (some ⟨g, 0, none⟩) (len + d) cap') (.map none) (.int .i64 n) ∧ key < 64 * ((len + d : Nat) : Int) ∧ 64 * (len + d) ≤ roomOf n ∧ Below B w w' := by
  have c0 := hs.c0
  have c1 := hs.c1
  have c2 := hs.c2
  have hr := room_walk n
  have hm' := room_words n
  obtain ⟨R, hR⟩ : ∃ R, R = roomOf n := ⟨_, rfl⟩
  have hRb := (room_ge n).2.2
  have hRm := room_mod n
  rw [← hR] at hr hm' h1 hRb hRm
  obtain ⟨M, hM⟩ : ∃ M : Int, ((R / 64 : Nat) : Int) = M := ⟨_, rfl⟩
  rw [hM] at hm'
  obtain ⟨q, hq⟩ : ∃ q : Nat, key / 64 = (q : Int) := ⟨(key / 64).toNat, by omega⟩
  obtain ⟨X, hX⟩ : ∃ X : Int, (if 2 * (len : Int) < (q : Int) + 1 then (q : Int) + 1 else 2 * (len : Int)) = X := ⟨_, rfl⟩
  have hXge : (q : Int) + 1 ≤ X ∧ 2 * (len : Int) ≤ X := by split at hX <;> omega
  obtain ⟨W, hW⟩ : ∃ W : Nat, (if M < X then M else X) = (W : Int) := ⟨(if M < X then M else X).toNat, by split <;> omega⟩
  have hWb : q < W ∧ (W : Int) ≤ M ∧ len < W := by split at hW <;> omega
  obtain ⟨d, hd⟩ : ∃ d : Nat, W = len + d := ⟨W - len, by omega⟩
  obtain ⟨i0, hi, hz0, hz1, hz2⟩ := info_parts Try.info59
  have HI := hid (And.intro hi (And.intro hz0 (And.intro hz1 hz2)))
  have HD : Hid ((W : Int) - (len : Int) = (d : Int)) := by show (W : Int) - (len : Int) = (d : Int); omega
  have hdp : 0 < d := by omega
  have FK : Hid (key < 64 * ((len + d : Nat) : Int)) := by show key < 64 * ((len + d : Nat) : Int); omega
  have FR : Hid (64 * (len + d) ≤ roomOf n) := by show 64 * (len + d) ≤ roomOf n; omega
  have hsum : len + d ≤ 1048576 := by omega
  have HS := hid hs
  have HO := hid hown
  have HR := hid hR
  have HMM := hid hM
  have HDD := hid hd
  have hXgeH := hid hXge
  clear hs hk hR hM hd hown hi hz0 hz1 hz2 hXge
  have hWb1 := hWb.1
  have hWb2 := hWb.2.1
  have hWb3 := hWb.2.2
  clear hWb
  go_enter Try.func35, Try.ntmps35
  go_wp2
  clear hr hm' hX hW
  have HOD := hid HO.out.drew
  have HSD : Hid (Str w.drew sb (.slice a len cap) (.map none) (.int .i64 n)) := HS.out
  have f0 := HS.out.fr 0
  have hd1 : (W : Int) - (len : Int) ≤ (d : Int) := by have := HDD.out; omega
  have hd2 : (d : Int) ≤ (W : Int) - (len : Int) := by have := HDD.out; omega
  go_region_law (refine step_append_zeros_own rfl (.tmp 36) (.tmp 43) 48 3 rfl B 59 i0 (.int .u64 0) .i64 .i64 Try.underlying48 Try.underlying3 HI.out.1 HI.out.2.1 HI.out.2.2.1 HI.out.2.2.2 rfl rfl a len cap (cellsOf ws) rfl HOD.out d _ rfl (by first | omega | (rw [IntKind.wrap_i64]; omega)) hdp hsum hB ?_; intro g cap' w1 hown1 hgrow1; have hs1 := Str.kept HSD.out hgrow1 (by exact own_ne HS.out HO.out); have d0 := hs1.c0; have e0 := hs1.fr 0)
  all_goals (
    have S2 := hid (hs1.set0 (.slice (some ⟨g, 0, none⟩) (len + d) cap'))
    have ngs : sb ≠ g := hs1.ne_row hown1
    have O2 : Hid ((w1.setCell ⟨sb, 0, none⟩ (.slice (some ⟨g, 0, none⟩) (len + d) cap')).ownsRow B 59 1 (.slice (some ⟨g, 0, none⟩) (len + d) cap') (len + d) (cellsOf (ws ++ List.replicate d 0))) := by
      rw [cellsOf_append, cellsOf_zeros]
      exact hown1.kept (grownBy_setCell w1 _ _) (by right; simp [Value.ownBlock]; exact fun e => ngs e.symm)
    have B2 : Hid (Below B w (w1.setCell ⟨sb, 0, none⟩ (.slice (some ⟨g, 0, none⟩) (len + d) cap'))) :=
      (((Below.refl B w).drew).grown hgrow1 hB (fun k hk => (HO.out.lt k hk).1)).setCell hsb _
    have c1' := S2.out.c1
    have esz : (w1.setCell ⟨sb, 0, none⟩ (.slice (some ⟨g, 0, none⟩) (len + d) cap')).heap.size = w1.heap.size := by simp [World.setCell]
    have hBs : B ≤ w1.heap.size := Nat.le_trans hB (by have := hgrow1.size; exact this)
    clear hown1 hgrow1 hs1 d0 e0 c0 c1 c2 f0
    have hrg := run_range_nilMap (P := Try.prog) (w1.setCell ⟨sb, 0, none⟩ (.slice (some ⟨g, 0, none⟩) (len + d) cap')) 49 47 60 Try.underlying49
    have hnx : ∀ ty, (Instr.next (.pointer (some ⟨w1.heap.size, 0, none⟩)) false ty).run Try.prog ((w1.setCell ⟨sb, 0, none⟩ (.slice (some ⟨g, 0, none⟩) (len + d) cap')).alloc (.mapIter none 0 #[] 0)) = .ok (.tuple #[.bool false]) ((w1.setCell ⟨sb, 0, none⟩ (.slice (some ⟨g, 0, none⟩) (len + d) cap')).alloc (.mapIter none 0 #[] 0)) := fun ty => by
      have h := run_next_nilMap (P := Try.prog) (w1.setCell ⟨sb, 0, none⟩ (.slice (some ⟨g, 0, none⟩) (len + d) cap')) ty 0 0 #[]
      rw [esz] at h
      exact h
    clear esz
    go_wp2
    refine wp_loop_rounds 1 ?_
    rw [rounds_succ]
    go_wp2
    go_ret
    exact ⟨rfl, g, cap', d, O2.out.alloc _, S2.out.kept (World.grownBy_alloc _ _ none) (by simp), FK.out, FR.out, B2.out.alloc (by simp [World.setCell]; exact hBs) _⟩)

end Go.Proofs.Qxb6618180a
