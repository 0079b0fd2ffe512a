/-
  THE CONTRACT OF zzHolds.
-/
import Derived.Test.Qxb6618180aRep
import Derived.OpenShut
namespace Go.Proofs.Qxb6618180a
open Go.RowKit Go.WideShapes Go.Maps
set_option linter.unusedVariables false

theorem test_bit (x r : Nat) (hx : x < 18446744073709551616) : (bits .and .u64 ((x : Int) / 2 ^ r) 1 == 1) = x.testBit r := by
  have e : (x : Int) / 2 ^ r = ((x / 2 ^ r : Nat) : Int) := by simp
  have h := u64_and_nat (x / 2 ^ r) 1 (Nat.lt_of_le_of_lt (Nat.div_le_self _ _) hx) (by decide)
  rw [Nat.and_one_is_mod] at h
  rw [e]
  have h1 : bits .and .u64 ((x / 2 ^ r : Nat) : Int) 1 = ((x / 2 ^ r % 2 : Nat) : Int) := h
  rw [h1]
  have h2 := low_one x r
  cases hb : x.testBit r with
  | true => rw [h2.2 hb]; rfl
  | false =>
    rw [beq_eq_false_iff_ne]
    intro h3
    have := h2.1 (by omega)
    rw [hb] at this
    cases this

theorem look_eq {w : World} {B : Nat} {mo : Option Nat} {D : DataW Unit} (hm : InMap w B mo D) {key : Int} (hk : (Lit.int .i64 key).wf = true) :
    (Instr.lookup 49 (.map mo) (.int .i64 key) true).run Try.prog w = .ok (.tuple #[.agg #[], .bool (sp D key)]) w := by
  rcases hm with ⟨rfl, rfl⟩ | ⟨mb, rfl, _, h⟩
  · exact Maps.look_nil true law47 Try.underlying49 (zero60 w) (keyOf_int_mk Try.underlying47 hk)
  · obtain ⟨v, ps, hrun, hv⟩ := h.look_ok law47 Try.underlying49 (zero60 w) unitElem_mk (keyOf_int_mk Try.underlying47 hk)
    obtain ⟨rfl, _⟩ := unitElem_inv hv
    exact hrun

set_option maxHeartbeats 400000 in
/-- The key lies among the words. -/
theorem holds_in (B g len cap : Nat) (ws : List Nat) (mo : Option Nat) (D : DataW Unit) (key : Int) (w : World) (hown : w.ownsRow B 59 1 (.slice (some ⟨g, 0, none⟩) len cap) len (cellsOf ws)) (hl : len ≤ 65536) (hws : ∀ v ∈ ws, v < 18446744073709551616)
    (hm : InMap w B mo D) (hk : (Lit.int .i64 key).wf = true) (h0 : 0 ≤ key) (h1 : key < 64 * (len : Int)) :
    Calls Try.prog 26 #[.slice (some ⟨g, 0, none⟩) len cap, .map mo, .int .i64 key] w fun e w' => e = .returned (.bool (bit ws key || sp D key)) ∧ Below w.heap.size w w' := by
  have hlen : ws.length = len := by have := hown.1; rw [cellsOf_length] at this; omega
  obtain ⟨q, hq⟩ : ∃ q : Nat, key / 64 = (q : Int) := ⟨(key / 64).toNat, by omega⟩
  obtain ⟨r, hr⟩ : ∃ r : Nat, key % 64 = (r : Int) := ⟨(key % 64).toNat, by omega⟩
  have hql : q < len := by omega
  have hql' : (q : Int) < (len : Int) := by omega
  have hr64 : r < 64 := by omega
  obtain ⟨x, hx⟩ : ∃ x, x = ws.getD q 0 := ⟨_, rfl⟩
  have hxl : x < 18446744073709551616 := by rw [hx]; exact getD_lt hws q
  have hcell : w.cell? ⟨g, q, none⟩ = some (.int .u64 (x : Nat)) := by rw [hown.cellAt q (by omega), cellsOf_get ws q (by omega), hx]
  have hbit : bit ws key = x.testBit r := by
    unfold bit
    rw [hq, hr, Int.toNat_natCast, Int.toNat_natCast, ← hx]; simp [h0]
  have HX := hid hx
  have HXL := hid hxl
  have HWS := hid hws
  have HB := hid hbit
  have hxi : (x : Int) ≤ 18446744073709551615 := by omega
  have HT := hid (test_bit x r HXL.out)
  have hlook := look_eq hm hk
  have hg : decide (0 ≤ key) = true := decide_eq_true h0
  clear hx hxl hws hbit hown hm
  cases hb : x.testBit r with
  | true =>
    have ht : (bits .and .u64 ((x : Int) / 2 ^ r) 1 == 1) = true := by rw [HT.out]; exact hb
    have HT2 := hid hb
    clear hb
    go_enter Try.func26, Try.ntmps26
    go_wp2
    go_ret
    exact ⟨by rw [HB.out, HT2.out]; rfl, Below.refl _ _⟩
  | false =>
    have ht : (bits .and .u64 ((x : Int) / 2 ^ r) 1 == 1) = false := by rw [HT.out]; exact hb
    have HT2 := hid hb
    clear hb
    go_enter Try.func26, Try.ntmps26
    go_wp2
    go_ret
    exact ⟨by rw [HB.out, HT2.out, Bool.false_or]; rfl, (Below.refl _ _).alloc (Nat.le_refl _) _⟩

set_option maxHeartbeats 400000 in
/-- The key lies beyond the words, or is negative. -/
theorem holds_out (B : Nat) (a : Option Addr) (len cap : Nat) (ws : List Nat) (mo : Option Nat) (D : DataW Unit) (key : Int) (w : World) (hl : len ≤ 65536) (hlen : ws.length = len)
    (hm : InMap w B mo D) (hk : (Lit.int .i64 key).wf = true) (h1 : ¬ (0 ≤ key ∧ key < 64 * (len : Int))) :
    Calls Try.prog 26 #[.slice a len cap, .map mo, .int .i64 key] w fun e w' => e = .returned (.bool (bit ws key || sp D key)) ∧ Below w.heap.size w w' := by
  have hlook := look_eq hm hk
  have HB : Hid (bit ws key = false) := by
    by_cases h : 0 ≤ key
    · exact bit_far ws key (by omega)
    · exact bit_neg ws key (by omega)
  have hb := bounds_i64 hk
  clear hm hk
  by_cases h0 : 0 ≤ key
  · have hg : decide (0 ≤ key) = true := decide_eq_true h0
    have hq : (len : Int) ≤ key / 64 := by omega
    go_enter Try.func26, Try.ntmps26
    go_wp2
    go_ret
    exact ⟨by rw [HB.out, Bool.false_or]; rfl, (Below.refl _ _).alloc (Nat.le_refl _) _⟩
  · have hg : decide (0 ≤ key) = false := decide_eq_false h0
    go_enter Try.func26, Try.ntmps26
    go_wp2
    go_ret
    exact ⟨by rw [HB.out, Bool.false_or]; rfl, (Below.refl _ _).alloc (Nat.le_refl _) _⟩

/-- zzHolds, whatever the key. -/
theorem holds_any (B : Nat) (a : Option Addr) (len cap : Nat) (ws : List Nat) (mo : Option Nat) (D : DataW Unit) (key : Int) (w : World) (hown : w.ownsRow B 59 1 (.slice a len cap) len (cellsOf ws)) (hl : len ≤ 65536) (hws : ∀ v ∈ ws, v < 18446744073709551616)
    (hm : InMap w B mo D) (hk : (Lit.int .i64 key).wf = true) :
    Calls Try.prog 26 #[.slice a len cap, .map mo, .int .i64 key] w fun e w' => e = .returned (.bool (bit ws key || sp D key)) ∧ Below w.heap.size w w' := by
  by_cases h1 : 0 ≤ key ∧ key < 64 * (len : Int)
  · obtain ⟨g, cap', e⟩ : ∃ g cap', Value.slice a len cap = .slice (some ⟨g, 0, none⟩) len cap' := by
      rcases hown.2 with ⟨_, h⟩ | ⟨g, cap', _, h, _⟩
      · omega
      · exact ⟨g, cap', h⟩
    simp only [Value.slice.injEq, true_and] at e
    obtain ⟨rfl, rfl⟩ := e
    exact holds_in B g len cap ws mo D key w hown hl hws hm hk h1.1 h1.2
  · exact holds_out B a len cap ws mo D key w hl (by have := hown.1; rw [cellsOf_length] at this; omega) hm hk h1

end Go.Proofs.Qxb6618180a
