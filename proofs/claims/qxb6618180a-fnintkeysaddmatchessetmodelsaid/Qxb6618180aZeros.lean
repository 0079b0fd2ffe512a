/-
  A LAW THAT THE WALK LACKED: 'append(s, make([]T, k)...)' where s is the call's own: room or not, the row behind it is what it was and k zeros; as a run, and as one step of a region that draws its order.
-/
import Derived.OwnWalk
import Derived.Deep.RegionLaw
import Derived.Lib.AppendZerosOnto
import Derived.Laws.OwnMore
namespace Go.Proofs.Qxb6618180a

theorem zeroCells_one (z : Value) (k : Nat) : (Builtin.zeroCells #[z] k).toList = List.replicate k z := by
  apply List.ext_getElem?
  intro j
  by_cases hj : j < k
  · simp [Builtin.zeroCells, hj, Nat.mod_one]
  · simp [Builtin.zeroCells, hj]

theorem run_append_zeros_own {P : Program} (w : World) (base : Nat) (t tn ty e : TypeId) (i : TypeInfo) (z : Value) (kq kn : IntKind) (ht : P.underlying t = some (.slice e)) (htn : P.underlying tn = some (.int kn)) (hi : P.info? e = some i) (hz : i.zero = some z)
    (hs1 : i.size = 1) (hby : i.bytes = 8) (hzc : z.cells = #[z]) (hz1 : z.oneCell' = true) (ao : Option Addr) (n cap : Nat) (xs : List Value) (hown : w.ownsRow base e 1 (.slice ao n cap) n xs) (k : Nat) (h0 : 0 < k) (hb : n + k ≤ 1048576) (hbase : base ≤ w.heap.size) :
    ∃ g cap' w', (Builtin.append_ #[t, tn] ty #[.slice ao n cap, .int kq (k : Int)]).run P w = .ok (.slice (some ⟨g, 0, none⟩) (n + k) cap') w' ∧
      w'.ownsRow base e 1 (.slice (some ⟨g, 0, none⟩) (n + k) cap') (n + k) (xs ++ List.replicate k z) ∧ w.grownBy w' (Value.ownBlock (.slice ao n cap)) := by
  have hlx : xs.length = n := by simpa using hown.1
  -- what a new row owns
  have fresh : ∀ c, n + k ≤ c → c ≤ maxLen → ∀ row, (w.drew.alloc (.cells (xs.toArray ++ Builtin.zeroCells z.cells k ++ Builtin.zeroCells z.cells (c - (n + k))) e)).ownsRow base e 1 (.slice (some ⟨w.heap.size, 0, none⟩) (n + k) c) (n + k) (xs ++ List.replicate k z) ∧
      w.grownBy (w.drew.alloc (.cells (xs.toArray ++ Builtin.zeroCells z.cells k ++ Builtin.zeroCells z.cells (c - (n + k))) e)) row := by
    intro c hc hcm row
    refine ⟨⟨by simp; omega, .inr ⟨w.heap.size, c, _, rfl, hbase, heap_alloc_new w.drew _, hc, hcm, ?_, ?_⟩⟩, ⟨rfl, rfl, rfl, by simp, fun j hj _ => heap_alloc_old w.drew _ j hj⟩⟩
    · simp [size_zeroCells, hzc, hlx]; omega
    · rw [hzc, Array.toList_append, Array.toList_append, zeroCells_one]
      have hl : ((n + k) * 1) = (xs ++ List.replicate k z).length := by simp; omega
      rw [hl]
      exact List.take_left
  have hge := grownCap_ge w (n + k) cap e
  have hgm : grownCap w (n + k) cap e ≤ maxLen := grownCap_le_maxLen w (n + k) cap e (by unfold maxLen; omega)
  by_cases hroom : n + k ≤ cap
  · -- there is room
    rcases hown.2 with ⟨h, hn0⟩ | ⟨g, cap', cur, h, hbg, hg, hnc, hcm, hcs, htake⟩
    · simp only [Value.slice.injEq] at h
      omega
    · simp only [Value.slice.injEq, true_and] at h
      obtain ⟨rfl, rfl⟩ := h
      have hst := run_storeCells_at P g n e (List.replicate k z) 0 cur w hg (by simp; omega) (by intro u hu; rw [List.mem_replicate] at hu; rw [hu.2]; exact hz1)
      simp only [Nat.add_zero] at hst
      have hk : k ≠ 0 := by omega
      have hw : IntKind.i64.wrap (k : Int) = k := by rw [IntKind.wrap_i64]; omega
      have h48i : ¬ (281474976710656 < (k : Int) * (i.bytes : Int)) := by rw [hby]; omega
      have hneg : ¬ ((k : Int) < 0) := by omega
      have hns : ¬ (k * i.size = 0) := by rw [hs1]; omega
      have hr : (Builtin.append_ #[t, tn] ty #[.slice (some ⟨g, 0, none⟩) n cap, .int kq (k : Int)]).run P w = .ok (.slice (some ⟨g, 0, none⟩) (n + k) cap) (w.setRow g (cur.toList.take n ++ List.replicate k z ++ cur.toList.drop (n + (List.replicate k z).length)).toArray) := by
        simp [Builtin.append_, run_underlying ht, run_underlying htn, sizeOf, typeInfo, zeroValue, hi, hz, asInt, asIntOf, hw, hk, hneg, h48i, hroom, hs1, hzc, zeroCells_one, Addr.add_lit, hst]
      refine ⟨_, _, _, hr, ⟨by simp; omega, .inr ⟨g, cap, _, rfl, hbg, setRow_heap w g cur _ e _ hg, hroom, hcm, ?_, ?_⟩⟩, ⟨rfl, rfl, rfl, by simp, fun j _ hj => setRow_other w g j _ (fun e => hj (by simp [Value.ownBlock, e]))⟩⟩
      · simp; omega
      · have hl : ((n + k) * 1) = (xs ++ List.replicate k z).length := by simp; omega
        rw [Nat.mul_one] at htake
        rw [htake, hl]
        exact List.take_left
  · -- a new row
    have hfit : Builtin.nextslicecap (n + k) cap * i.bytes ≤ 281474976710656 := growslice_fits (by omega) (by rw [hby]; omega)
    obtain ⟨r1, r2⟩ := fresh _ hge hgm (Value.ownBlock (.slice ao n cap))
    refine ⟨_, _, _, Lib.run_append_grow_zeros w t tn ty e i z kq kn ht htn hi hz ao n cap xs ?_ k h0 (by omega) (by omega) (by omega) (by rw [hby]; omega) hfit, r1, r2⟩
    rcases hown.2 with ⟨h, hn0⟩ | ⟨g, cap', cur, h, hbg, hg, hnc, hcm, hcs, htake⟩
    · simp only [Value.slice.injEq] at h
      obtain ⟨rfl, rfl, rfl⟩ := h
      obtain rfl : xs = [] := List.eq_nil_of_length_eq_zero hlx
      simp [Builtin.firstCells]
    · simp only [Value.slice.injEq, true_and] at h
      obtain ⟨rfl, rfl⟩ := h
      exact run_firstCells_some (P := P) w.drew i.size n ⟨g, 0, none⟩ n cap xs (by rw [hs1, hlx, Nat.mul_one]) (by simpa using hown.cells (g := g) rfl)

/-- THE SAME, AS ONE STEP OF A REGION THAT DRAWS ITS ORDER. -/
theorem step_append_zeros_own {P : Program} {ops : Array Oper} {o : Oper} {a : Act} {w : World} {K : Act → World → Prop} {Q : Exit → Act → World → Prop} {E : Prop}
    (hg : o.guard = none) (s x : Operand) (t tn : TypeId) (hop : o.op = Op.call { callee := Callee.builtin Builtin.append, args := #[s, x], argTypes := #[t, tn] })
    (base e : TypeId) (i : TypeInfo) (z : Value) (kq kn : IntKind) (ht : P.underlying t = some (.slice e)) (htn : P.underlying tn = some (.int kn)) (hi : P.info? e = some i) (hz : i.zero = some z)
    (hs1 : i.size = 1) (hby : i.bytes = 8) (hzc : z.cells = #[z]) (hz1 : z.oneCell' = true) (ao : Option Addr) (n cap : Nat) (xs : List Value) (hs : a.eval s = .slice ao n cap) (hown : w.ownsRow base e 1 (.slice ao n cap) n xs)
    (k : Nat) (X : Int) (hx : a.eval x = .int kq X) (hX : X = (k : Int)) (h0 : 0 < k) (hb : n + k ≤ 1048576) (hbase : base ≤ w.heap.size)
    (hK : ∀ g cap' w', w'.ownsRow base e 1 (.slice (some ⟨g, 0, none⟩) (n + k) cap') (n + k) (xs ++ List.replicate k z) → w.grownBy w' (Value.ownBlock (.slice ao n cap)) → K (a.put o.dst (.slice (some ⟨g, 0, none⟩) (n + k) cap')) w') :
    if Region.wanted o (yielded ops a.tmps) = true then Oper.wp P o a w K Q else E := by
  have hw : Region.wanted o (yielded ops a.tmps) = true := by simp [Region.wanted, hg]
  rw [if_pos hw]
  subst hX
  obtain ⟨g, cap', w', hrun, r1, r2⟩ := run_append_zeros_own (P := P) w base t tn o.type e i z kq kn ht htn hi hz hs1 hby hzc hz1 ao n cap xs hown k h0 hb hbase
  unfold Oper.wp
  simp [execOp, hop, resolve, invoke, builtin, hs, hx, hrun, Result.andThen]
  exact hK g cap' w' r1 r2

end Go.Proofs.Qxb6618180a
