/-
  THE SET, WHOLE: memory and plain part together; reach's contract over them; the plain steps of add.
-/
import Derived.Test.Qxb6618180aReachMap
import Derived.Test.Qxb6618180aLeaf
namespace Go.Proofs.Qxb6618180a
open Go.RowKit Go.WideShapes Go.Maps
set_option linter.unusedVariables false

/-- THE SET IN MEMORY: n as it is counted; the words ws; the map D. -/
structure Rep (w : World) (B sb : Nat) (a : Option Addr) (len cap : Nat) (mo : Option Nat) (ws : List Nat) (D : DataW Unit) (n : Nat) : Prop where
  str : Str w sb (.slice a len cap) (.map mo) (.int .i64 n)
  row : w.ownsRow B 59 1 (.slice a len cap) len (cellsOf ws)
  map : InMap w B mo D
  sbB : B ≤ sb
  lt : ∀ v ∈ ws, v < 18446744073709551616

theorem Rep.len {w : World} {B sb : Nat} {a : Option Addr} {len cap : Nat} {mo : Option Nat} {ws : List Nat} {D : DataW Unit} {n : Nat} (h : Rep w B sb a len cap mo ws D n) : ws.length = len := by
  have := h.row.1; rw [cellsOf_length] at this; omega

/-- IS THE NUMBER k HELD? -/
def held (ws : List Nat) (D : DataW Unit) (k : Int) : Bool := bit ws k || sp D k

/-- THE SET'S PLAIN PART: no key of the map lies within the words' reach; the count; the room. -/
structure Abs (ws : List Nat) (D : DataW Unit) (n : Nat) : Prop where
  out : ∀ k, 0 ≤ k → k < 64 * (ws.length : Int) → sp D k = false
  cnt : ones ws + sz D = n
  room : 64 * ws.length ≤ roomOf n

theorem room_mono {n m : Nat} (h : n ≤ m) : roomOf n ≤ roomOf m := by unfold roomOf; split <;> split <;> omega

theorem Abs.dis {ws : List Nat} {D : DataW Unit} {n : Nat} (h : Abs ws D n) : ∀ k, sp D k = true → bit ws k = false := by
  intro k hk
  by_cases h0 : 0 ≤ k
  · by_cases h1 : k < 64 * (ws.length : Int)
    · rw [h.out k h0 h1] at hk; cases hk
    · exact bit_far ws k (by omega)
  · exact bit_neg ws k (by omega)

/-- A key beyond the words goes into the map. -/
theorem Abs.put {ws : List Nat} {D : DataW Unit} {n : Nat} (h : Abs ws D n) (ht : Maps.Tidy D) (key : Int) (hk : ¬ (0 ≤ key ∧ key < 64 * (ws.length : Int))) :
    held ws D key = sp D key ∧ (∀ k, held ws (D.put (.int .i64 key) unitD) k = (held ws D k || (k == key))) ∧ Abs ws (D.put (.int .i64 key) unitD) (if sp D key then n else n + 1) := by
  have hb : bit ws key = false := by
    by_cases h0 : 0 ≤ key
    · exact bit_far ws key (by omega)
    · exact bit_neg ws key (by omega)
  refine ⟨by unfold held; rw [hb, Bool.false_or], fun k => ?_, fun k k0 k1 => ?_, ?_, Nat.le_trans h.room (room_mono (by split <;> omega))⟩
  · unfold held
    rw [sp_put ht, Bool.or_assoc]
  · rw [sp_put ht, h.out k k0 k1, Bool.false_or, beq_eq_false_iff_ne]
    intro e
    exact hk (by rw [← e]; exact ⟨k0, k1⟩)
  · rw [sz_put ht]
    have := h.cnt
    split <;> omega

/-- A key within the words' reach that is held already. -/
theorem Abs.same {ws : List Nat} {D : DataW Unit} {n : Nat} (h : Abs ws D n) (key : Int) (hb : bit ws key = true) :
    held ws D key = true ∧ ∀ k, held ws D k = (held ws D k || (k == key)) := by
  have hh : held ws D key = true := by unfold held; rw [hb]; rfl
  refine ⟨hh, fun k => ?_⟩
  by_cases e : k = key
  · rw [e, hh]; rfl
  · rw [beq_eq_false_iff_ne.2 e, Bool.or_false]

/-- A key within the words' reach that is new: its bit is set. -/
theorem Abs.lay {ws : List Nat} {D : DataW Unit} {n : Nat} (h : Abs ws D n) (key : Int) (h0 : 0 ≤ key) (h1 : key < 64 * (ws.length : Int)) (hb : bit ws key = false) :
    held ws D key = false ∧ (∀ k, held (lay ws key) D k = (held ws D k || (k == key))) ∧ Abs (lay ws key) D (n + 1) := by
  refine ⟨by unfold held; rw [hb, h.out key h0 h1]; rfl, fun k => ?_, fun k k0 k1 => h.out k k0 (by rw [← lay_length ws key]; exact k1), ?_, ?_⟩
  · unfold held
    rw [bit_lay ws key k h0 h1]
    cases bit ws k <;> cases sp D k <;> cases (k == key) <;> rfl
  · rw [ones_lay ws key h0 h1 hb]
    have := h.cnt
    omega
  · rw [lay_length]
    exact Nat.le_trans h.room (room_mono (Nat.le_succ n))

theorem Moved.abs {ws ws' : List Nat} {D D' : DataW Unit} {n : Nat} (h : Abs ws D n) (m : Moved ws D ws' D') (hr : 64 * ws'.length ≤ roomOf n) : Abs ws' D' n ∧ ∀ k, held ws' D' k = held ws D k :=
  ⟨⟨m.out, by rw [m.cnt]; exact h.cnt, hr⟩, fun k => m.mem k⟩

/-- reach, where the key lies within the room. -/
theorem reach_yes (B sb n : Nat) (a : Option Addr) (len cap : Nat) (mo : Option Nat) (ws : List Nat) (D : DataW Unit) (key : Int) (w : World) (R : Rep w B sb a len cap mo ws D n) (A : Abs ws D n) (hB : B ≤ w.heap.size) (hk : (Lit.int .i64 key).wf = true)
    (hn : n ≤ 4096) (h0 : 64 * (len : Int) ≤ key) (h1 : key < roomOf n) :
    Calls Try.prog 35 #[.pointer (some ⟨sb, 0, none⟩), .int .i64 key] w fun e w' => e = .returned (.bool true) ∧ ∃ g len' cap' ws' D', Rep w' B sb (some ⟨g, 0, none⟩) len' cap' mo ws' D' n ∧ Abs ws' D' n ∧ (∀ k, held ws' D' k = held ws D k) ∧ key < 64 * (len' : Int) ∧ Below B w w' := by
  have hlen := R.len
  have hl : len ≤ 8192 := by have := A.room; have := (room_ge n).2.2; omega
  rcases R.map with ⟨rfl, rfl⟩ | ⟨mb, rfl, hmb, hm⟩
  · refine (reach_nil B sb n a len cap ws key w R.str R.row hB R.sbB hk hn hl h0 h1).mono fun e w' => ?_
    rintro ⟨rfl, g, cap', d, h2, h3, h4, h5, h6⟩
    have hl' : (ws ++ List.replicate d 0).length = len + d := by simp [hlen]
    have hm : Moved ws (.map []) (ws ++ List.replicate d 0) (.map []) := ⟨zeros_lt R.lt d, fun k => by rw [bit_zeros], by rw [ones_append, ones_zeros]; omega, fun k _ _ => sp_empty k⟩
    have ha := hm.abs A (by rw [hl']; exact h5)
    exact ⟨rfl, g, len + d, cap', _, _, ⟨h3, h2, .inl ⟨rfl, rfl⟩, R.sbB, hm.lt⟩, ha.1, ha.2, h4, h6⟩
  · refine (reach_map B sb n a len cap mb ws D key w R.str R.row hm hB R.sbB hmb hk hn hl h0 h1 R.lt A.dis).mono fun e w' => ?_
    rintro ⟨rfl, g, cap', d, ws', D', h2, h3, h4, h5, h6, h7, h8⟩
    have hl' : ws'.length = len + d := by have := h2.1; rw [cellsOf_length] at this; omega
    have ha := h8.abs A (by rw [hl']; exact h6)
    exact ⟨rfl, g, len + d, cap', _, _, ⟨h3, h2, .inr ⟨mb, rfl, hmb, h4⟩, R.sbB, h8.lt⟩, ha.1, ha.2, h5, h7⟩

end Go.Proofs.Qxb6618180a
