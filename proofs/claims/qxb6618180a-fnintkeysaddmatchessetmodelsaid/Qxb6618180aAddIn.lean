/-
  add, WHERE THE KEY LIES WITHIN THE WORDS' REACH.
-/
import Derived.Test.Qxb6618180aAdd
namespace Go.Proofs.Qxb6618180a
open Go.RowKit Go.WideShapes Go.Maps
set_option linter.unusedVariables false

theorem mask_word (z : Nat) (hz : (z : Int) < 64) : IntKind.u64.wrap ((2 : Int) ^ z) = ((2 ^ z : Nat) : Int) := by
  have hp : 2 ^ z < 2 ^ 64 := Nat.pow_lt_pow_right (by omega) (by omega)
  have e : ((2 : Int) ^ z) = ((2 ^ z : Nat) : Int) := by simp
  rw [e, IntKind.wrap_u64]
  exact Int.emod_eq_of_lt (Int.natCast_nonneg _) (Int.ofNat_lt.2 hp)

theorem mask_test (v z : Nat) (hv : v < 18446744073709551616) (hz : (z : Int) < 64) : (bits .and .u64 (v : Int) ((2 ^ z : Nat) : Int) != 0) = v.testBit z := by
  have hp : 2 ^ z < 2 ^ 64 := Nat.pow_lt_pow_right (by omega) (by omega)
  rw [u64_and_nat v (2 ^ z) hv hp]
  have h := mask_ne v z
  cases e : v.testBit z with
  | true => rw [bne_iff_ne]; exact fun h0 => h.2 e (Int.ofNat_eq_zero.1 h0)
  | false =>
    rw [bne_eq_false_iff_eq]
    by_cases h0 : v &&& 2 ^ z = 0
    · rw [h0]; rfl
    · rw [h.1 h0] at e; cases e

theorem or_mask (v z : Nat) (hv : v < 18446744073709551616) (hz : (z : Int) < 64) : bits .or .u64 (v : Int) ((2 ^ z : Nat) : Int) = ((v ||| 2 ^ z : Nat) : Int) := by
  have hp : 2 ^ z < 2 ^ 64 := Nat.pow_lt_pow_right (by omega) (by omega)
  exact u64_or_nat v (2 ^ z) hv hp

theorem Rep.drewN {w : World} {B sb : Nat} {a : Option Addr} {len cap : Nat} {mo : Option Nat} {ws : List Nat} {D : DataW Unit} {n : Nat} (h : Rep w B sb a len cap mo ws D n) (k : Nat) : Rep (w.drewN k) B sb a len cap mo ws D n :=
  ⟨h.str, h.row, h.map, h.sbB, h.lt⟩

set_option maxHeartbeats 1000000 in
/-- The key lies within the words' reach. -/
theorem add_in (B sb n g len cap : Nat) (mo : Option Nat) (ws : List Nat) (D : DataW Unit) (key : Int) (w : World) (R : Rep w B sb (some ⟨g, 0, none⟩) len cap mo ws D n) (A : Abs ws D n) (hB : B ≤ w.heap.size) (hk : (Lit.int .i64 key).wf = true)
    (hn : n ≤ 4096) (h0 : 0 ≤ key) (h1 : key < 64 * (len : Int)) :
    Calls Try.prog 30 #[.pointer (some ⟨sb, 0, none⟩), .int .i64 key] w fun e w' => e = .returned (.bool (!held ws D key)) ∧ Added w w' B sb ws D n key := by
  have hlen := R.len
  have hb := bounds_i64 hk
  have hl : len ≤ 8192 := by have := A.room; have := (room_ge n).2.2; omega
  have hg : decide (0 ≤ key) = true := decide_eq_true (by omega)
  have hg2 : decide (key < (len : Int) * 64) = true := decide_eq_true (by omega)
  have c0 := R.str.c0
  have c2 := R.str.c2
  have f2 := R.str.fr 2
  obtain ⟨y, hy⟩ : ∃ y : Nat, key / 64 = (y : Int) := ⟨(key / 64).toNat, by omega⟩
  obtain ⟨z, hz⟩ : ∃ z : Nat, key % 64 = (z : Int) := ⟨(key % 64).toNat, by omega⟩
  have hz64 : (z : Int) < 64 := by omega
  have hyl : (y : Int) < (len : Int) := by omega
  have hyd := tdiv64 h0 hb.2 hy
  have hzd := tmod64 h0 hz
  have hzw := wrap_small hz64
  obtain ⟨v, hv⟩ : ∃ v, v = ws.getD y 0 := ⟨_, rfl⟩
  have ec : w.cell? ⟨g, y, none⟩ = some (.int .u64 (v : Nat)) := by rw [R.row.cellAt y (by omega), cellsOf_get ws y (by omega), hv]
  have ef := R.row.frozenAt y
  have ngs : g ≠ sb := (R.str.ne_row R.row).symm
  obtain ⟨m, hm⟩ : ∃ m : Nat, m = 2 ^ z := ⟨_, rfl⟩
  have hmw : IntKind.u64.wrap ((2 : Int) ^ z) = (m : Int) := by rw [hm]; exact mask_word z hz64
  have HT := hid (mask_test v z (by rw [hv]; exact getD_lt R.lt y) hz64)
  have HOR := hid (or_mask v z (by rw [hv]; exact getD_lt R.lt y) hz64)
  have HBT : Hid (bit ws key = v.testBit z) := by show bit ws key = v.testBit z; unfold bit; rw [hy, hz, Int.toNat_natCast, Int.toNat_natCast, ← hv]; simp [h0]
  rw [← hm] at HT HOR
  have HMM := hid hm
  have HR := hid R
  have HA := hid A
  have HV := hid hv
  have hkl : key < 64 * (ws.length : Int) := by omega
  clear R A hv hm
  cases hb1 : bit ws key with
  | true =>
    have ht : (bits .and .u64 (v : Int) (m : Int) != 0) = true := by rw [HT.out, ← HBT.out, hb1]
    have HB1 := hid hb1
    clear hb1
    go_enter Try.func30, Try.ntmps30
    go_wp2
    go_quiet (fail)
    go_wp2
    go_ret
    obtain ⟨q1, q2⟩ := HA.out.same key HB1.out
    refine ⟨by rw [q1]; rfl, some ⟨g, 0, none⟩, len, cap, mo, ws, D, ?_, ?_, q2, below_drewN (Below.refl _ _) _⟩
    · rw [q1]; exact HR.out.drewN _
    · rw [q1]; exact HA.out
  | false =>
    have ht : (bits .and .u64 (v : Int) (m : Int) != 0) = false := by rw [HT.out, ← HBT.out, hb1]
    have HB1 := hid hb1
    clear hb1
    go_enter Try.func30, Try.ntmps30
    go_wp2
    go_quiet (fail)
    go_wp2
    go_ret
    obtain ⟨q1, q2, q3⟩ := HA.out.lay key h0 hkl HB1.out
    have R1 := ((HR.out.drewN nq).word hy hz (HOR.out.trans (by rw [HV.out, HMM.out]))).bump
    refine ⟨by rw [q1]; rfl, some ⟨g, 0, none⟩, len, cap, mo, lay ws key, D, ?_, ?_, q2, ?_⟩
    · rw [q1]; exact R1
    · rw [q1]; exact q3
    · exact (((below_drewN (Below.refl B w) nq).setCell (p := ⟨g, y, none⟩) (HR.out.row.lt g (by simp [Value.ownBlock])).1 _).setCell (p := ⟨sb, 2, none⟩) HR.out.sbB _)

set_option maxHeartbeats 1000000 in
/-- The key lies beyond the words, within the room: they grow. -/
theorem add_grow (B sb n : Nat) (a : Option Addr) (len cap : Nat) (mo : Option Nat) (ws : List Nat) (D : DataW Unit) (key : Int) (w : World) (R : Rep w B sb a len cap mo ws D n) (A : Abs ws D n) (hB : B ≤ w.heap.size) (hk : (Lit.int .i64 key).wf = true)
    (hn : n ≤ 4096) (h0 : 0 ≤ key) (h1 : 64 * (len : Int) ≤ key) (h2 : key < roomOf n) :
    Calls Try.prog 30 #[.pointer (some ⟨sb, 0, none⟩), .int .i64 key] w fun e w' => e = .returned (.bool (!held ws D key)) ∧ Added w w' B sb ws D n key := by
  have hb := bounds_i64 hk
  have hl : len ≤ 8192 := by have := A.room; have := R.len; have := (room_ge n).2.2; omega
  have hg : decide (0 ≤ key) = true := decide_eq_true (by omega)
  have hg2 : decide (key < (len : Int) * 64) = false := decide_eq_false (by omega)
  have c0w := R.str.c0
  have HY := hid (reach_yes B sb n a len cap mo ws D key w R A hB hk hn h1 h2)
  clear R A hk
  go_enter Try.func30, Try.ntmps30
  go_wp2_with fail
  refine HY.out.mono ?_
  rintro e w1 ⟨rfl, g, len', cap', ws', D', R1, A1, hh, hk1, hB1⟩
  have HH := hid hh
  have HBB := hid hB1
  clear c0w HY hh hB1 hg2 h1 h2
  have hlen1 := R1.len
  have hl1 : len' ≤ 8192 := by have := A1.room; have := (room_ge n).2.2; omega
  have c0 := R1.str.c0
  have c2 := R1.str.c2
  have f2 := R1.str.fr 2
  obtain ⟨y, hy⟩ : ∃ y : Nat, key / 64 = (y : Int) := ⟨(key / 64).toNat, by omega⟩
  obtain ⟨z, hz⟩ : ∃ z : Nat, key % 64 = (z : Int) := ⟨(key % 64).toNat, by omega⟩
  have hz64 : (z : Int) < 64 := by omega
  have hyl : (y : Int) < (len' : Int) := by omega
  have hyd := tdiv64 h0 hb.2 hy
  have hzd := tmod64 h0 hz
  have hzw := wrap_small hz64
  obtain ⟨v, hv⟩ : ∃ v, v = ws'.getD y 0 := ⟨_, rfl⟩
  have ec : w1.cell? ⟨g, y, none⟩ = some (.int .u64 (v : Nat)) := by rw [R1.row.cellAt y (by omega), cellsOf_get ws' y (by omega), hv]
  have ef := R1.row.frozenAt y
  have ngs : g ≠ sb := (R1.str.ne_row R1.row).symm
  obtain ⟨m, hm⟩ : ∃ m : Nat, m = 2 ^ z := ⟨_, rfl⟩
  have hmw : IntKind.u64.wrap ((2 : Int) ^ z) = (m : Int) := by rw [hm]; exact mask_word z hz64
  have HT := hid (mask_test v z (by rw [hv]; exact getD_lt R1.lt y) hz64)
  have HOR := hid (or_mask v z (by rw [hv]; exact getD_lt R1.lt y) hz64)
  have HBT : Hid (bit ws' key = v.testBit z) := by show bit ws' key = v.testBit z; unfold bit; rw [hy, hz, Int.toNat_natCast, Int.toNat_natCast, ← hv]; simp [h0]
  rw [← hm] at HT HOR
  have HMM := hid hm
  have HR := hid R1
  have HA := hid A1
  have HV := hid hv
  have hkl : key < 64 * (ws'.length : Int) := by omega
  clear R1 A1 hv hm
  cases hb1 : bit ws' key with
  | true =>
    have ht : (bits .and .u64 (v : Int) (m : Int) != 0) = true := by rw [HT.out, ← HBT.out, hb1]
    have HB1 := hid hb1
    clear hb1
    go_wp2
    go_quiet (fail)
    go_wp2
    go_ret
    obtain ⟨q1, q2⟩ := HA.out.same key HB1.out
    rw [HH.out key] at q1
    refine ⟨by rw [q1]; rfl, some ⟨g, 0, none⟩, len', cap', mo, ws', D', ?_, ?_, fun k => by rw [← HH.out k]; exact q2 k, below_drewN HBB.out _⟩
    · rw [q1]; exact HR.out.drewN _
    · rw [q1]; exact HA.out
  | false =>
    have ht : (bits .and .u64 (v : Int) (m : Int) != 0) = false := by rw [HT.out, ← HBT.out, hb1]
    have HB1 := hid hb1
    clear hb1
    go_wp2
    go_quiet (fail)
    go_wp2
    go_ret
    obtain ⟨q1, q2, q3⟩ := HA.out.lay key h0 hkl HB1.out
    rw [HH.out key] at q1
    have R2 := ((HR.out.drewN nq).word hy hz (HOR.out.trans (by rw [HV.out, HMM.out]))).bump
    refine ⟨by rw [q1]; rfl, some ⟨g, 0, none⟩, len', cap', mo, lay ws' key, D', ?_, ?_, fun k => by rw [← HH.out k]; exact q2 k, ?_⟩
    · rw [q1]; exact R2
    · rw [q1]; exact q3
    · exact (((below_drewN HBB.out nq).setCell (p := ⟨g, y, none⟩) (HR.out.row.lt g (by simp [Value.ownBlock])).1 _).setCell (p := ⟨sb, 2, none⟩) HR.out.sbB _)

/-- add, whatever the key. -/
theorem add_any (B sb n : Nat) (a : Option Addr) (len cap : Nat) (mo : Option Nat) (ws : List Nat) (D : DataW Unit) (key : Int) (w : World) (R : Rep w B sb a len cap mo ws D n) (A : Abs ws D n) (hB : B ≤ w.heap.size) (hk : (Lit.int .i64 key).wf = true) (hn : n ≤ 4096) :
    Calls Try.prog 30 #[.pointer (some ⟨sb, 0, none⟩), .int .i64 key] w fun e w' => e = .returned (.bool (!held ws D key)) ∧ Added w w' B sb ws D n key := by
  by_cases h0 : key < 0
  · exact add_neg B sb n a len cap mo ws D key w R A hB hk hn h0
  · by_cases h1 : 64 * (len : Int) ≤ key
    · by_cases h2 : key < roomOf n
      · exact add_grow B sb n a len cap mo ws D key w R A hB hk hn (by omega) h1 h2
      · exact add_far B sb n a len cap mo ws D key w R A hB hk hn h1 (by omega)
    · obtain ⟨g, cap', e⟩ : ∃ g cap', Value.slice a len cap = .slice (some ⟨g, 0, none⟩) len cap' := by
        rcases R.row.2 with ⟨_, h⟩ | ⟨g, cap', _, h, _⟩
        · omega
        · exact ⟨g, cap', h⟩
      simp only [Value.slice.injEq, true_and] at e
      obtain ⟨rfl, rfl⟩ := e
      exact add_in B sb n g len cap mo ws D key w R A hB hk hn (by omega) (by omega)

set_option maxHeartbeats 400000 in
theorem zzAdd_any (B sb n : Nat) (a : Option Addr) (len cap : Nat) (mo : Option Nat) (ws : List Nat) (D : DataW Unit) (key : Int) (w : World) (R : Rep w B sb a len cap mo ws D n) (A : Abs ws D n) (hB : B ≤ w.heap.size) (hk : (Lit.int .i64 key).wf = true) (hn : n ≤ 4096) :
    Calls Try.prog 23 #[.pointer (some ⟨sb, 0, none⟩), .int .i64 key] w fun e w' => e = .returned (.bool (!held ws D key)) ∧ Added w w' B sb ws D n key := by
  have HC := hid (add_any B sb n a len cap mo ws D key w R A hB hk hn)
  clear R A
  go_enter Try.func23, Try.ntmps23
  go_wp2_with (go_at_call 30; refine HC.out.mono ?_; rintro e w1 ⟨rfl, had⟩)
  go_ret
  exact ⟨rfl, had⟩

end Go.Proofs.Qxb6618180a
