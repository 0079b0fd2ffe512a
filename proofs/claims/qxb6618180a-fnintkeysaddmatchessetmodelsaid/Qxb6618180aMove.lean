/-
  KEYS THAT MOVE FROM THE MAP INTO THE WORDS: what the loop keeps, its steps. And the step of a range over a set, the shapes written out.
-/
import Derived.Test.Qxb6618180aRep
import Derived.Maps.RangeWalk
namespace Go.Proofs.Qxb6618180a
open Go.RowKit Go.WideShapes Go.Maps
set_option linter.unusedVariables false

/-- WHAT THE LOOP KEEPS. ws0, D0: as the loop began; ws, D: now; left: the keys that are still to come. -/
structure Move (ws0 : List Nat) (D0 : DataW Unit) (ws : List Nat) (D : DataW Unit) (left : Lit → Bool) : Prop where
  len : ws.length = ws0.length
  lt : ∀ v ∈ ws, v < 18446744073709551616
  mem : ∀ k, (bit ws k || sp D k) = (bit ws0 k || sp D0 k)
  cnt : ones ws + sz D = ones ws0 + sz D0
  dis : ∀ k, sp D k = true → bit ws k = false
  todo : ∀ k, sp D k = true → 0 ≤ k → k < 64 * (ws0.length : Int) → left (.int .i64 k) = true

theorem Move.start {ws0 : List Nat} {D0 : DataW Unit} (hlt : ∀ v ∈ ws0, v < 18446744073709551616) (hd : ∀ k, sp D0 k = true → bit ws0 k = false) : Move ws0 D0 ws0 D0 (Maps.has D0) :=
  ⟨rfl, hlt, fun _ => rfl, rfl, hd, fun k h _ _ => h⟩

/-- The entry lies within the words' reach: it moves. -/
theorem Move.moved {ws0 ws : List Nat} {D0 D : DataW Unit} {left : Lit → Bool} (h : Move ws0 D0 ws D left) (ht : Maps.Tidy D) (x : Int) (hx : sp D x = true) (h0 : 0 ≤ x) (h1 : x < 64 * (ws0.length : Int)) :
    Move ws0 D0 (lay ws x) (D.del (.int .i64 x)) (fun z => left z && !z.sameKey (.int .i64 x)) := by
  have hb := h.dis x hx
  have hl : x < 64 * (ws.length : Int) := by rw [h.len]; exact h1
  refine ⟨by rw [lay_length, h.len], lay_lt ws x h.lt, fun k => ?_, ?_, fun k hk => ?_, fun k hk k0 k1 => ?_⟩
  · rw [bit_lay ws x k h0 hl, sp_del, ← h.mem k]
    by_cases e : k = x
    · subst e; simp [hx]
    · have : (k == x) = false := beq_eq_false_iff_ne.2 e
      simp [this]
  · have a := ones_lay ws x h0 hl hb
    have b := sz_del ht x hx
    have c := h.cnt
    omega
  · rw [sp_del] at hk
    rw [bit_lay ws x k h0 hl]
    simp only [Bool.and_eq_true, Bool.not_eq_true'] at hk
    rw [h.dis k hk.1, hk.2]; rfl
  · rw [sp_del] at hk
    simp only [Bool.and_eq_true, Bool.not_eq_true', beq_eq_false_iff_ne] at hk
    show (left (.int .i64 k) && !(Lit.int .i64 k).sameKey (.int .i64 x)) = true
    rw [h.todo k hk.1 k0 k1, Maps.sameKey_ne (int_ne hk.2)]; rfl

/-- It lies beyond: it stays. -/
theorem Move.stays {ws0 ws : List Nat} {D0 D : DataW Unit} {left : Lit → Bool} (h : Move ws0 D0 ws D left) (x : Int) (hx : ¬ (0 ≤ x ∧ x < 64 * (ws0.length : Int))) :
    Move ws0 D0 ws D (fun z => left z && !z.sameKey (.int .i64 x)) := by
  refine ⟨h.len, h.lt, h.mem, h.cnt, h.dis, fun k hk k0 k1 => ?_⟩
  have e : k ≠ x := fun e => hx (by rw [← e]; exact ⟨k0, k1⟩)
  show (left (.int .i64 k) && !(Lit.int .i64 k).sameKey (.int .i64 x)) = true
  rw [h.todo k hk k0 k1, Maps.sameKey_ne (int_ne e)]; rfl

/-- Nothing is left: the map holds no key within the words' reach. -/
theorem Move.done {ws0 ws : List Nat} {D0 D : DataW Unit} {left : Lit → Bool} (h : Move ws0 D0 ws D left) (hl : ∀ kl, left kl = false) : ∀ k, 0 ≤ k → k < 64 * (ws0.length : Int) → sp D k = false := by
  intro k k0 k1
  cases e : sp D k with
  | false => rfl
  | true => have := h.todo k e k0 k1; rw [hl] at this; cases this

section
variable {P : Program} (w : World) {ops : Array Oper} {rest : List Oper} {o : Oper} {a : Act} {Q : Exit → Act → World → Prop}

/-- THE STEP OF A RANGE OVER A SET OF INTEGERS. -/
theorem wpList_next_set (hg : o.guard = none) (it : Operand) (hop : o.op = Op.next it false) (k : TypeId) (qk : IntKind) (K : Keyed P k) (hk : P.underlying k = some (.int qk))
    (b r n : Nat) (D : DataW Unit) (left : Lit → Bool) (cnt : Nat) (hit : a.eval it = .pointer (some ⟨r, 0, none⟩)) (h : w.ranges P k unitElem b r n D left cnt)
    (hDone : (∀ kl, left kl = false) → wpList P ops Q rest (a.put o.dst (.tuple #[.bool false])) w)
    (hMore : ∀ (x : Int) (w' : World) (cnt' : Nat), (Lit.int qk x).wf = true → left (.int qk x) = true → Maps.has D (.int qk x) = true → w'.ranges P k unitElem b r n D (fun z => left z && !z.sameKey (.int qk x)) cnt' → cnt' < cnt →
      w.grownBy w' (some r) → w'.heap.size = w.heap.size → (Instr.entry (.pointer (some ⟨r, 0, none⟩))).run P w' = .ok (.tuple #[.int qk x, .agg #[]]) w' → wpList P ops Q rest (a.put o.dst (.tuple #[.bool true, .int qk x, .agg #[]])) w') :
    wpList P ops Q (o :: rest) a w :=
  wpList_next_ranges w hg it hop k K unitElem (Value.int qk) (fun _ : Unit => .agg #[]) (fun key kl hkey => by obtain ⟨x, rfl, _⟩ := Maps.keyOf_int_inv hk hkey; exact ⟨x, rfl⟩) (fun v y hv => ⟨(), (unitElem_inv hv).1⟩)
    b r n D left cnt hit h (fun _ hl => hDone hl) (fun x c kl y w' cnt' hkey hlk hv hat hrg hlt hgr hsz hen => by
      obtain ⟨x', ex, rfl, hwx⟩ := Maps.keyOf_int_inv hk hkey
      cases ex
      exact hMore x w' cnt' hwx hlk (Maps.has_true_of_atKey hat) hrg hlt hgr hsz hen)
end

end Go.Proofs.Qxb6618180a
