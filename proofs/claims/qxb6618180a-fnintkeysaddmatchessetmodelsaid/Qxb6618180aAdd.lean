/-
  THE CONTRACT OF (*intKeys).add AND OF ZZIntKeysAdd.
-/
import Derived.Test.Qxb6618180aAbs
import Derived.Deep.QuietTactic
import Derived.BigQuiet
namespace Go.Proofs.Qxb6618180a
open Go.RowKit Go.WideShapes Go.Maps
set_option linter.unusedVariables false

theorem InMap.setCell {w : World} {B : Nat} {mo : Option Nat} {D : DataW Unit} (h : InMap w B mo D) {a : Addr} (ha : mo ≠ some a.block) (u : Value) : InMap (w.setCell a u) B mo D := by
  rcases h with h | ⟨mb, rfl, hb, hm⟩
  · exact .inl h
  · exact .inr ⟨mb, rfl, hb, hm.setCell (by simpa using ha) u⟩

theorem Rep.map_ne {w : World} {B sb : Nat} {a : Option Addr} {len cap : Nat} {mo : Option Nat} {ws : List Nat} {D : DataW Unit} {n : Nat} (h : Rep w B sb a len cap mo ws D n) : mo ≠ some sb := by
  rcases h.map with ⟨rfl, _⟩ | ⟨mb, rfl, _, hm⟩
  · simp
  · have := h.str.ne_map hm
    simpa using fun e => this (by rw [e])

/-- 'k.n++'. -/
theorem Rep.bump {w : World} {B sb : Nat} {a : Option Addr} {len cap : Nat} {mo : Option Nat} {ws : List Nat} {D : DataW Unit} {n : Nat} (h : Rep w B sb a len cap mo ws D n) :
    Rep (w.setCell ⟨sb, 2, none⟩ (.int .i64 ((n : Int) + 1))) B sb a len cap mo ws D (n + 1) := by
  refine ⟨?_, h.row.kept (grownBy_setCell w _ _) (.inr (Ne.symm (own_ne h.str h.row))), h.map.setCell h.map_ne _, h.sbB, h.lt⟩
  have := h.str.set2 (.int .i64 ((n : Int) + 1))
  exact this

theorem Rep.map_ne_row {w : World} {B sb g : Nat} {len cap : Nat} {mo : Option Nat} {ws : List Nat} {D : DataW Unit} {n : Nat} (h : Rep w B sb (some ⟨g, 0, none⟩) len cap mo ws D n) : mo ≠ some g := by
  rcases h.map with ⟨rfl, _⟩ | ⟨mb, rfl, _, hm⟩
  · simp
  · have := Qxb6618180a.map_ne_row hm h.row
    simpa using this

/-- A word's bit is set. -/
theorem Rep.word {w : World} {B sb g : Nat} {len cap : Nat} {mo : Option Nat} {ws : List Nat} {D : DataW Unit} {n : Nat} (h : Rep w B sb (some ⟨g, 0, none⟩) len cap mo ws D n) {key : Int} {y z : Nat} (hy : key / 64 = (y : Int)) (hz : key % 64 = (z : Int)) {u : Int} (hu : u = ((ws.getD y 0 ||| 2 ^ z : Nat) : Int)) :
    Rep (w.setCell ⟨g, y, none⟩ (.int .u64 u)) B sb (some ⟨g, 0, none⟩) len cap mo (lay ws key) D n := by
  have hne := h.str.ne_row h.row
  refine ⟨h.str.kept (grownBy_setCell w _ _) (by simpa using hne), ?_, h.map.setCell h.map_ne_row _, h.sbB, lay_lt ws key h.lt⟩
  have h1 := (h.row.stored y (.int .u64 u)).1
  rw [hu, lay_cells hy hz] at h1
  rw [hu]
  exact h1

/-- WHAT add LEAVES. -/
def Added (w w' : World) (B sb : Nat) (ws : List Nat) (D : DataW Unit) (n : Nat) (key : Int) : Prop :=
  ∃ a' len' cap' mo' ws' D', Rep w' B sb a' len' cap' mo' ws' D' (if held ws D key then n else n + 1) ∧ Abs ws' D' (if held ws D key then n else n + 1) ∧ (∀ k, held ws' D' k = (held ws D k || (k == key))) ∧ Below B w w'

/-! ### the key goes into the map -/
theorem Rep.put {w w1 : World} {B sb : Nat} {a : Option Addr} {len cap : Nat} {mo mo' : Option Nat} {ws : List Nat} {D : DataW Unit} {n : Nat} (h : Rep w B sb a len cap mo ws D n) (key : Int)
    (hs : Str w1 sb (.slice a len cap) (.map mo') (.int .i64 n)) (hm : InMap w1 B mo' (D.put (.int .i64 key) unitD)) (ht : Turn w w1 sb mo) : Rep w1 B sb a len cap mo' ws (D.put (.int .i64 key) unitD) n :=
  ⟨hs, ht.row h.str h.map h.row, hm, h.sbB, h.lt⟩

set_option maxHeartbeats 1000000 in
/-- A negative key goes into the map. -/
theorem add_neg (B sb n : Nat) (a : Option Addr) (len cap : Nat) (mo : Option Nat) (ws : List Nat) (D : DataW Unit) (key : Int) (w : World) (R : Rep w B sb a len cap mo ws D n) (A : Abs ws D n) (hB : B ≤ w.heap.size) (hk : (Lit.int .i64 key).wf = true)
    (hn : n ≤ 4096) (h0 : key < 0) :
    Calls Try.prog 30 #[.pointer (some ⟨sb, 0, none⟩), .int .i64 key] w fun e w' => e = .returned (.bool (!held ws D key)) ∧ Added w w' B sb ws D n key := by
  have hlen := R.len
  obtain ⟨p1, p2, p3⟩ := A.put R.map.tidy key (by omega)
  have hg : decide (0 ≤ key) = false := decide_eq_false (by omega)
  have hsz : sz D ≤ 65536 := by have := A.cnt; omega
  have HC := hid (addKey_any B sb (.slice a len cap) (.int .i64 n) mo D key w R.str R.map hB hk hsz)
  have HP := hid (And.intro p1 (And.intro p2 p3))
  have HR := hid R
  clear p1 p2 p3 R hk A hsz hlen
  cases hsp : sp D key with
  | true =>
    have HSP := hid hsp
    clear hsp
    go_enter Try.func30, Try.ntmps30
    go_wp2_with (go_at_call 36; refine HC.out.mono ?_; rintro e w1 ⟨rfl, mo', hs1, hm1, ht1⟩; rw [HSP.out])
    go_ret
    have hh := HP.out.1
    rw [HSP.out] at hh
    refine ⟨by rw [hh]; rfl, a, len, cap, mo', ws, _, ?_, ?_, HP.out.2.1, ht1.below HR.out.sbB HR.out.map hB⟩
    · rw [hh]; exact HR.out.put key hs1 hm1 ht1
    · have := HP.out.2.2; rw [HSP.out] at this; rw [hh]; exact this
  | false =>
    have HSP := hid hsp
    clear hsp
    go_enter Try.func30, Try.ntmps30
    go_wp2_with (go_at_call 36; refine HC.out.mono ?_; rintro e w1 ⟨rfl, mo', hs1, hm1, ht1⟩; rw [HSP.out]; have c2 := hs1.c2; have f2 := hs1.fr 2)
    go_ret
    have hh := HP.out.1
    rw [HSP.out] at hh
    have R1 := HR.out.put key hs1 hm1 ht1
    refine ⟨by rw [hh]; rfl, a, len, cap, mo', ws, _, ?_, ?_, HP.out.2.1, (ht1.below HR.out.sbB HR.out.map hB).setCell HR.out.sbB _⟩
    · rw [hh]; exact R1.bump
    · have := HP.out.2.2; rw [HSP.out] at this; rw [hh]; exact this

set_option maxHeartbeats 1000000 in
/-- A key beyond the room goes into the map. -/
theorem add_far (B sb n : Nat) (a : Option Addr) (len cap : Nat) (mo : Option Nat) (ws : List Nat) (D : DataW Unit) (key : Int) (w : World) (R : Rep w B sb a len cap mo ws D n) (A : Abs ws D n) (hB : B ≤ w.heap.size) (hk : (Lit.int .i64 key).wf = true)
    (hn : n ≤ 4096) (h0 : 64 * (len : Int) ≤ key) (h1 : (roomOf n : Int) ≤ key) :
    Calls Try.prog 30 #[.pointer (some ⟨sb, 0, none⟩), .int .i64 key] w fun e w' => e = .returned (.bool (!held ws D key)) ∧ Added w w' B sb ws D n key := by
  have hlen := R.len
  obtain ⟨p1, p2, p3⟩ := A.put R.map.tidy key (by omega)
  have hb := bounds_i64 hk
  have hl : len ≤ 8192 := by have := A.room; have := (room_ge n).2.2; omega
  have hg : decide (0 ≤ key) = true := decide_eq_true (by omega)
  have hg2 : decide (key < (len : Int) * 64) = false := decide_eq_false (by omega)
  have c0 := R.str.c0
  have HN := hid (reach_no sb n a len cap mo key w R.str hk hn h1)
  have hsz : sz D ≤ 65536 := by have := A.cnt; omega
  have HC := hid (addKey_any B sb (.slice a len cap) (.int .i64 n) mo D key w R.str R.map hB hk hsz)
  have HP := hid (And.intro p1 (And.intro p2 p3))
  have HR := hid R
  clear p1 p2 p3 R hk A hsz hlen
  cases hsp : sp D key with
  | true =>
    have HSP := hid hsp
    clear hsp
    go_enter Try.func30, Try.ntmps30
    go_wp2_with (first | (go_at_call 35; refine HN.out.mono ?_; rintro e w' ⟨rfl, rfl⟩) | (go_at_call 36; refine HC.out.mono ?_; rintro e w1 ⟨rfl, mo', hs1, hm1, ht1⟩; rw [HSP.out]))
    go_ret
    have hh := HP.out.1
    rw [HSP.out] at hh
    refine ⟨by rw [hh]; rfl, a, len, cap, mo', ws, _, ?_, ?_, HP.out.2.1, ht1.below HR.out.sbB HR.out.map hB⟩
    · rw [hh]; exact HR.out.put key hs1 hm1 ht1
    · have := HP.out.2.2; rw [HSP.out] at this; rw [hh]; exact this
  | false =>
    have HSP := hid hsp
    clear hsp
    go_enter Try.func30, Try.ntmps30
    go_wp2_with (first | (go_at_call 35; refine HN.out.mono ?_; rintro e w' ⟨rfl, rfl⟩) | (go_at_call 36; refine HC.out.mono ?_; rintro e w1 ⟨rfl, mo', hs1, hm1, ht1⟩; rw [HSP.out]; have c2 := hs1.c2; have f2 := hs1.fr 2))
    go_ret
    have hh := HP.out.1
    rw [HSP.out] at hh
    have R1 := HR.out.put key hs1 hm1 ht1
    refine ⟨by rw [hh]; rfl, a, len, cap, mo', ws, _, ?_, ?_, HP.out.2.1, (ht1.below HR.out.sbB HR.out.map hB).setCell HR.out.sbB _⟩
    · rw [hh]; exact R1.bump
    · have := HP.out.2.2; rw [HSP.out] at this; rw [hh]; exact this

end Go.Proofs.Qxb6618180a
