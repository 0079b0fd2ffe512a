/-
  THE CONTRACT OF zzPathsShape: where it answers true the row runs from 0, never falls and ends at the number of paths.
-/
import Derived.Test.Qxb6616964aClone
import Derived.Deep.QuietTactic
import Derived.BigQuiet
import Derived.WalkSmall
namespace Go.Proofs.Qxb6616964a
open Go.RowKit Go.WideShapes
set_option linter.unusedVariables false

def elt (zs : List Int) (q : Nat) : Int := zs.getD q 0

set_option maxHeartbeats 1000000 in
theorem shape_empty (a1 : Option Addr) (cap1 : Nat) (a2 : Option Addr) (len2 cap2 : Nat) (a3 : Option Addr) (len3 cap3 : Nat) (w : World) :
    Calls Try.prog 6 #[.slice a1 0 cap1, .slice a2 len2 cap2, .slice a3 len3 cap3] w fun e w' => e = .returned (.bool false) ∧ Below w.heap.size w w' := by
  go_enter Try.func6, Try.ntmps6
  go_wp2
  go_ret
  exact ⟨rfl, Below.refl _ _⟩

/-- ITS SECOND LOOP's WALK says nothing but that a Bool comes back. -/
theorem shape_pos (b1 off1 len1 cap1 : Nat) (z1 : List Int) (b2 off2 len2 cap2 : Nat) (z2 : List Int) (a3 : Option Addr) (len3 cap3 : Nat) (w : World) (hp1 : 0 < len1) (hp2 : 0 < len2)
    (hl1 : len1 ≤ 1048576) (hl2 : len2 ≤ 1048576) (hl3 : len3 ≤ 1048576)
    (hc1 : ∀ i, i < len1 → w.cell? ⟨b1, off1 + i, none⟩ = some (.int .i64 (z1.getD i 0))) (hw1 : ∀ i, i < len1 → (Lit.int .i64 (z1.getD i 0)).wf = true)
    (hc2 : ∀ i, i < len2 → w.cell? ⟨b2, off2 + i, none⟩ = some (.int .i64 (z2.getD i 0))) (hw2 : ∀ i, i < len2 → (Lit.int .i64 (z2.getD i 0)).wf = true) :
    Calls Try.prog 6 #[.slice (some ⟨b1, off1, none⟩) len1 cap1, .slice (some ⟨b2, off2, none⟩) len2 cap2, .slice a3 len3 cap3] w fun e w' =>
      (∃ b, e = .returned (.bool b) ∧ (b = true → Shape (fun q => z1.getD q 0) len1 len2)) ∧ Below w.heap.size w w' := by
  have hB1 : b1 < w.heap.size := World.block_lt_of_cell? w _ (hc1 0 hp1)
  have hB2 : b2 < w.heap.size := World.block_lt_of_cell? w _ (hc2 0 hp2)
  obtain ⟨e0, he0⟩ : ∃ e, e = z1.getD 0 0 := ⟨_, rfl⟩
  have c0 : w.cell? ⟨b1, off1, none⟩ = some (.int .i64 e0) := by rw [he0]; simpa using hc1 0 hp1
  have HE0 : Hid _ := he0
  clear he0
  have hp1' : (0 : Int) < (len1 : Int) := by omega
  have hn1 : ((len1 : Int) == 0) = false := beq_eq_false_iff_ne.2 (by omega)
  by_cases h0 : e0 = 0
  · subst h0
    have h0 : z1.getD 0 0 = 0 := HE0.out.symm
    clear HE0
    go_enter Try.func6, Try.ntmps6
    go_wp2
    go_loopw [7] (fun i wr => ∃ k : Nat, 1 ≤ k ∧ k ≤ len1 ∧ i = .int .i64 k ∧ (∀ q, q + 1 < k → z1.getD q 0 ≤ z1.getD (q + 1) 0) ∧ Below w.heap.size w wr)
      (fun i _ => len1 - (intOf i).toNat)
    case atStart => exact ⟨1, Nat.le_refl _, hp1, rfl, fun q h => by omega, Below.refl _ _⟩
    case round =>
      obtain ⟨k, hk1, hk, rfl, hmono, hbel⟩ := hrel
      clear c0
      by_cases hlt : k < len1
      · obtain ⟨j, rfl⟩ : ∃ j, k = j + 1 := ⟨k - 1, by omega⟩
        have cx : wr.cell? ⟨b1, off1 + (j + 1), none⟩ = some (.int .i64 (z1.getD (j + 1) 0)) := (hbel.cell (p := ⟨b1, off1 + (j + 1), none⟩) hB1).trans (hc1 (j + 1) hlt)
        have cy : wr.cell? ⟨b1, off1 + j, none⟩ = some (.int .i64 (z1.getD j 0)) := (hbel.cell (p := ⟨b1, off1 + j, none⟩) hB1).trans (hc1 j (by omega))
        obtain ⟨x, hx⟩ : ∃ x, x = z1.getD (j + 1) 0 := ⟨_, rfl⟩
        obtain ⟨y, hy⟩ : ∃ y, y = z1.getD j 0 := ⟨_, rfl⟩
        rw [← hx] at cx
        rw [← hy] at cy
        have HX : Hid _ := hx
        have HY : Hid _ := hy
        have HM : Hid _ := hmono
        have HC1 : Hid _ := hc1
        have HC2 : Hid _ := hc2
        clear hx hy hmono hc1 hc2 h0 hw1 hw2
        have hjl : (j : Int) < (len1 : Int) := by omega
        have hjl' : ((j : Int) + 1) < (len1 : Int) := by omega
        by_cases hxy : x < y
        · go_wp2
          go_quiet (fail)
          go_wp2
          go_ret
          exact ⟨⟨_, rfl, fun h => by cases h⟩, below_drewN hbel _⟩
        · go_wp2
          go_quiet (fail)
          go_wp2
          go_roundw
          case rel =>
            refine ⟨j + 1 + 1, by omega, by omega, by go_num, fun q hq => ?_, below_drewN hbel _⟩
            by_cases hqj : q = j
            · subst hqj; rw [← HX.out, ← HY.out]; omega
            · exact HM.out q (by omega)
          case measure => simp [intOf]; omega
      · have hke : k = len1 := by omega
        subst hke
        have nn : ∀ q, q < k → 0 ≤ z1.getD q 0 := by
          intro q
          induction q with
          | zero => intro _; omega
          | succ q ih => intro hq; exact Int.le_trans (ih (by omega)) (hmono q hq)
        obtain ⟨x, hx⟩ : ∃ x, x = z1.getD (k - 1) 0 := ⟨_, rfl⟩
        have cx : wr.cell? ⟨b1, off1 + (k - 1), none⟩ = some (.int .i64 x) := by rw [hx]; exact (hbel.cell (p := ⟨b1, off1 + (k - 1), none⟩) hB1).trans (hc1 (k - 1) (by omega))
        have x0 : 0 ≤ x := by rw [hx]; exact nn _ (by omega)
        obtain ⟨s0, hs0⟩ : ∃ s0, s0 = z2.getD 0 0 := ⟨_, rfl⟩
        have c20 : wr.cell? ⟨b2, off2, none⟩ = some (.int .i64 s0) := by rw [hs0]; exact (hbel.cell (p := ⟨b2, off2, none⟩) hB2).trans (by simpa using hc2 0 hp2)
        have hp2' : (0 : Int) < (len2 : Int) := by omega
        have hkl : (k : Int) - 1 < (k : Int) := by omega
        have hk1' : (0 : Int) ≤ (k : Int) - 1 := by omega
        have HX : Hid _ := hx
        have HM : Hid _ := hmono
        have HC1 : Hid _ := hc1
        have HC2 : Hid _ := hc2
        have H0 : Hid _ := h0
        clear hs0 hx hmono hc1 hc2 h0 hw1 hw2 nn
        by_cases hlast : x = (len2 : Int) - 1
        · have hsh : Hid (Shape (fun q => z1.getD q 0) k len2) := ⟨hp1, H0.out, fun q hq => HM.out q hq, by show z1.getD (k - 1) 0 = _; rw [← HX.out]; exact hlast⟩
          have hlb : (x != (len2 : Int) - 1) = false := by rw [bne_eq_false_iff_eq]; exact hlast
          clear hlast HX HM H0
          by_cases hs : s0 = 0
          · have hsb : (s0 != 0) = false := by rw [bne_eq_false_iff_eq]; exact hs
            clear hs
            go_wp2
            go_loopw [8] (fun i wr => ∃ k : Nat, 1 ≤ k ∧ k ≤ len2 ∧ i = .int .i64 k ∧ Below w.heap.size w wr) (fun i _ => len2 - (intOf i).toNat)
            case atStart => exact ⟨1, Nat.le_refl _, hp2, rfl, hbel⟩
            case round =>
              clear cx c20 hlb hsb hbel hkl hk1' x0
              obtain ⟨m, hm1, hm, rfl, hbel⟩ := hrel
              by_cases hlt : m < len2
              · obtain ⟨j, rfl⟩ : ∃ j, m = j + 1 := ⟨m - 1, by omega⟩
                obtain ⟨u, hu⟩ : ∃ u, u = z2.getD (j + 1) 0 := ⟨_, rfl⟩
                obtain ⟨v, hv⟩ : ∃ v, v = z2.getD j 0 := ⟨_, rfl⟩
                have cu : wr.cell? ⟨b2, off2 + (j + 1), none⟩ = some (.int .i64 u) := by rw [hu]; exact (hbel.cell (p := ⟨b2, off2 + (j + 1), none⟩) hB2).trans (HC2.out (j + 1) hlt)
                have cv : wr.cell? ⟨b2, off2 + j, none⟩ = some (.int .i64 v) := by rw [hv]; exact (hbel.cell (p := ⟨b2, off2 + j, none⟩) hB2).trans (HC2.out j (by omega))
                clear hu hv
                have hjl : (j : Int) < (len2 : Int) := by omega
                have hjl' : ((j : Int) + 1) < (len2 : Int) := by omega
                by_cases huv : u < v
                · have hd : decide (u < v) = true := decide_eq_true huv
                  go_wp2
                  go_quiet (fail)
                  go_wp2
                  go_ret
                  exact ⟨⟨_, rfl, fun h => by cases h⟩, below_drewN hbel _⟩
                · have hd : decide (u < v) = false := decide_eq_false huv
                  go_wp2
                  go_quiet (fail)
                  go_wp2
                  · go_ret
                    exact ⟨⟨_, rfl, fun h => by cases h⟩, below_drewN hbel _⟩
                  · go_roundw
                    case rel => exact ⟨j + 1 + 1, by omega, by omega, by go_num, below_drewN hbel _⟩
                    case measure => simp [intOf]; omega
              · have hme : m = len2 := by omega
                subst hme
                obtain ⟨y, hy⟩ : ∃ y, y = z2.getD (m - 1) 0 := ⟨_, rfl⟩
                have cy : wr.cell? ⟨b2, off2 + (m - 1), none⟩ = some (.int .i64 y) := by rw [hy]; exact (hbel.cell (p := ⟨b2, off2 + (m - 1), none⟩) hB2).trans (HC2.out (m - 1) (by omega))
                clear hy
                have hml : (m : Int) - 1 < (m : Int) := by omega
                have hm1' : (0 : Int) ≤ (m : Int) - 1 := by omega
                go_wp2
                go_ret
                exact ⟨⟨_, rfl, fun _ => hsh.out⟩, hbel⟩
          · have hsb : (s0 != 0) = true := by rw [bne_iff_ne]; exact hs
            go_wp2
            go_ret
            exact ⟨⟨_, rfl, fun h => by cases h⟩, hbel⟩
        · have hlb : (x != (len2 : Int) - 1) = true := by rw [bne_iff_ne]; exact hlast
          go_wp2
          go_ret
          exact ⟨⟨_, rfl, fun h => by cases h⟩, hbel⟩
  · have hb0 : (e0 != 0) = true := by rw [bne_iff_ne]; exact h0
    go_enter Try.func6, Try.ntmps6
    go_wp2
    go_ret
    exact ⟨⟨_, rfl, fun h => by cases h⟩, Below.refl _ _⟩

set_option maxHeartbeats 1000000 in
/-- No path at all (not even the first entry of start): it answers false. -/
theorem shape_no2 (b1 off1 len1 cap1 : Nat) (z1 : List Int) (a2 : Option Addr) (cap2 : Nat) (a3 : Option Addr) (len3 cap3 : Nat) (w : World) (hp1 : 0 < len1)
    (hl1 : len1 ≤ 1048576) (hl3 : len3 ≤ 1048576)
    (hc1 : ∀ i, i < len1 → w.cell? ⟨b1, off1 + i, none⟩ = some (.int .i64 (z1.getD i 0))) (hw1 : ∀ i, i < len1 → (Lit.int .i64 (z1.getD i 0)).wf = true) :
    Calls Try.prog 6 #[.slice (some ⟨b1, off1, none⟩) len1 cap1, .slice a2 0 cap2, .slice a3 len3 cap3] w fun e w' =>
      e = .returned (.bool false) ∧ Below w.heap.size w w' := by
  have hB1 : b1 < w.heap.size := World.block_lt_of_cell? w _ (hc1 0 hp1)
  obtain ⟨e0, he0⟩ : ∃ e, e = z1.getD 0 0 := ⟨_, rfl⟩
  have c0 : w.cell? ⟨b1, off1, none⟩ = some (.int .i64 e0) := by rw [he0]; simpa using hc1 0 hp1
  have HE0 : Hid _ := he0
  clear he0
  have hp1' : (0 : Int) < (len1 : Int) := by omega
  have hn1 : ((len1 : Int) == 0) = false := beq_eq_false_iff_ne.2 (by omega)
  by_cases h0 : e0 = 0
  · subst h0
    have h0 : z1.getD 0 0 = 0 := HE0.out.symm
    clear HE0
    go_enter Try.func6, Try.ntmps6
    go_wp2
    go_loopw [7] (fun i wr => ∃ k : Nat, 1 ≤ k ∧ k ≤ len1 ∧ i = .int .i64 k ∧ (∀ q, q + 1 < k → z1.getD q 0 ≤ z1.getD (q + 1) 0) ∧ Below w.heap.size w wr)
      (fun i _ => len1 - (intOf i).toNat)
    case atStart => exact ⟨1, Nat.le_refl _, hp1, rfl, fun q h => by omega, Below.refl _ _⟩
    case round =>
      obtain ⟨k, hk1, hk, rfl, hmono, hbel⟩ := hrel
      clear c0
      by_cases hlt : k < len1
      · obtain ⟨j, rfl⟩ : ∃ j, k = j + 1 := ⟨k - 1, by omega⟩
        have cx : wr.cell? ⟨b1, off1 + (j + 1), none⟩ = some (.int .i64 (z1.getD (j + 1) 0)) := (hbel.cell (p := ⟨b1, off1 + (j + 1), none⟩) hB1).trans (hc1 (j + 1) hlt)
        have cy : wr.cell? ⟨b1, off1 + j, none⟩ = some (.int .i64 (z1.getD j 0)) := (hbel.cell (p := ⟨b1, off1 + j, none⟩) hB1).trans (hc1 j (by omega))
        obtain ⟨x, hx⟩ : ∃ x, x = z1.getD (j + 1) 0 := ⟨_, rfl⟩
        obtain ⟨y, hy⟩ : ∃ y, y = z1.getD j 0 := ⟨_, rfl⟩
        rw [← hx] at cx
        rw [← hy] at cy
        have HX : Hid _ := hx
        have HY : Hid _ := hy
        have HM : Hid _ := hmono
        have HC1 : Hid _ := hc1
        clear hx hy hmono hc1 h0 hw1
        have hjl : (j : Int) < (len1 : Int) := by omega
        have hjl' : ((j : Int) + 1) < (len1 : Int) := by omega
        by_cases hxy : x < y
        · go_wp2
          go_quiet (fail)
          go_wp2
          go_ret
          exact ⟨rfl, below_drewN hbel _⟩
        · go_wp2
          go_quiet (fail)
          go_wp2
          go_roundw
          case rel =>
            refine ⟨j + 1 + 1, by omega, by omega, by go_num, fun q hq => ?_, below_drewN hbel _⟩
            by_cases hqj : q = j
            · subst hqj; rw [← HX.out, ← HY.out]; omega
            · exact HM.out q (by omega)
          case measure => simp [intOf]; omega
      · have hke : k = len1 := by omega
        subst hke
        have nn : ∀ q, q < k → 0 ≤ z1.getD q 0 := by
          intro q
          induction q with
          | zero => intro _; omega
          | succ q ih => intro hq; exact Int.le_trans (ih (by omega)) (hmono q hq)
        obtain ⟨x, hx⟩ : ∃ x, x = z1.getD (k - 1) 0 := ⟨_, rfl⟩
        have cx : wr.cell? ⟨b1, off1 + (k - 1), none⟩ = some (.int .i64 x) := by rw [hx]; exact (hbel.cell (p := ⟨b1, off1 + (k - 1), none⟩) hB1).trans (hc1 (k - 1) (by omega))
        have x0 : 0 ≤ x := by rw [hx]; exact nn _ (by omega)
        have hkl : (k : Int) - 1 < (k : Int) := by omega
        have hk1' : (0 : Int) ≤ (k : Int) - 1 := by omega
        have HX : Hid _ := hx
        have HM : Hid _ := hmono
        have HC1 : Hid _ := hc1
        have H0 : Hid _ := h0
        clear hx hmono hc1 h0 hw1 nn
        have hlb : (x != 0 - 1) = true := by rw [bne_iff_ne]; omega
        have hlb' : (x != -1) = true := by rw [bne_iff_ne]; omega
        go_wp2
        go_ret
        exact ⟨rfl, hbel⟩
  · have hb0 : (e0 != 0) = true := by rw [bne_iff_ne]; exact h0
    go_enter Try.func6, Try.ntmps6
    go_wp2
    go_ret
    exact ⟨rfl, Below.refl _ _⟩

/-- zzPathsShape, whatever the slices. -/
theorem shape_any (a1 : Option Addr) (len1 cap1 : Nat) (z1 : List Int) (a2 : Option Addr) (len2 cap2 : Nat) (z2 : List Int) (a3 : Option Addr) (len3 cap3 : Nat) (w : World)
    (h1 : InRow .i64 w a1 len1 cap1 z1) (h2 : InRow .i64 w a2 len2 cap2 z2) (hl1 : len1 ≤ 1048576) (hl2 : len2 ≤ 1048576) (hl3 : len3 ≤ 1048576) :
    Calls Try.prog 6 #[.slice a1 len1 cap1, .slice a2 len2 cap2, .slice a3 len3 cap3] w fun e w' =>
      (∃ b, e = .returned (.bool b) ∧ (b = true → Shape (fun q => z1.getD q 0) len1 len2)) ∧ Below w.heap.size w w' := by
  by_cases hp1 : 0 < len1
  · obtain ⟨b1, off1, rfl, hc1, hw1⟩ := h1.at hp1
    by_cases hp2 : 0 < len2
    · obtain ⟨b2, off2, rfl, hc2, hw2⟩ := h2.at hp2
      exact shape_pos b1 off1 len1 cap1 z1 b2 off2 len2 cap2 z2 a3 len3 cap3 w hp1 hp2 hl1 hl2 hl3 hc1 hw1 hc2 hw2
    · obtain rfl : len2 = 0 := by omega
      refine (shape_no2 b1 off1 len1 cap1 z1 a2 cap2 a3 len3 cap3 w hp1 hl1 hl3 hc1 hw1).mono fun e w' => ?_
      rintro ⟨rfl, hb⟩
      exact ⟨⟨_, rfl, fun h => by cases h⟩, hb⟩
  · obtain rfl : len1 = 0 := by omega
    refine (shape_empty a1 cap1 a2 len2 cap2 a3 len3 cap3 w).mono fun e w' => ?_
    rintro ⟨rfl, hb⟩
    exact ⟨⟨_, rfl, fun h => by cases h⟩, hb⟩

end Go.Proofs.Qxb6616964a
