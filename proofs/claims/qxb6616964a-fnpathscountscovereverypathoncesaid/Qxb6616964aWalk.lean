/-
  THE WALK OF THE LAW: every pair is counted once.
-/
import Derived.Test.Qxb6616964aCalls
import Derived.Test.Qxb6616964aShape
import Derived.OpenShut
namespace Go.Proofs.Qxb6616964a
open Go.RowKit Go.WideShapes
set_option linter.unusedVariables false

theorem elt_def (zs : List Int) (q : Nat) : elt zs q = zs.getD q 0 := rfl
theorem elt_take (zs : List Int) (n q : Nat) (h : q < n) : (zs.take n).getD q 0 = zs.getD q 0 := by
  simp [List.getD_eq_getElem?_getD, h]

theorem hid {p : Prop} (h : p) : Hid p := h

set_option maxHeartbeats 1000000 in
theorem law_any (n : Int) (a1 : Option Addr) (len1 cap1 : Nat) (z1 : List Int) (a2 : Option Addr) (len2 cap2 : Nat) (z2 : List Int) (a3 : Option Addr) (len3 cap3 : Nat) (z3 : List Int) (l : Int) (w : World)
    (r1 : InRow .i64 w a1 len1 cap1 z1) (r2 : InRow .i64 w a2 len2 cap2 z2) (r3 : InRow .i32 w a3 len3 cap3 z3)
    (hl1 : len1 ≤ 32768) (hl2 : len2 ≤ 32768) (hl3 : len3 ≤ 65536) (hn2 : 2 ≤ n) (hn : n ≤ 65536) (hlen : Hid ((len1 : Int) = n * (n - 1) / 2 + 1)) :
    Calls Try.prog 4 #[.int .i64 n, .slice a1 len1 cap1, .slice a2 len2 cap2, .slice a3 len3 cap3, .int .i64 l] w fun e w' => e = .returned (.bool true) ∧ Below w.heap.size w w' := by
  obtain ⟨m0, m1⟩ := last_bd n (by omega) hn
  have hne : ((len1 : Int) != n * (n - 1) / 2 + 1) = false := by rw [bne_eq_false_iff_eq]; exact hlen.out
  go_enter Try.func4, Try.ntmps4
  go_wp2_with (go_at_call 11; refine (bytes_any n a1 len1 cap1 a2 len2 cap2 a3 len3 cap3 l _ (by omega) (by omega) (by omega)).mono ?_; rintro e w' ⟨⟨b, rfl⟩, rfl⟩; cases b)
  · go_ret
    exact ⟨rfl, Below.refl _ _⟩
  refine (shape_any a1 len1 cap1 z1 a2 len2 cap2 z2 a3 len3 cap3 _ r1 r2 (by omega) (by omega) (by omega)).mono ?_
  rintro e w1 ⟨⟨b, rfl, hsh⟩, B1⟩
  cases b
  · go_wp2
    go_ret
    exact ⟨rfl, B1⟩
  have SH : Hid (Shape (elt z1) len1 len2) := hsh rfl
  have R1 := hid (r1.below B1 (Nat.le_refl _))
  have R2 := hid (r2.below B1 (Nat.le_refl _))
  have R3 := hid (r3.below B1 (Nat.le_refl _))
  clear r1 r2 r3 hsh
  have BB1 := hid (B1)
  have hz1 := B1.size
  clear B1
  go_wp2_with fail
  refine (ints_any a1 len1 cap1 z1 _ R1.out (by omega)).mono ?_
  rintro e w2 ⟨p1, rfl, q1, B2⟩
  have Q1 := hid (q1)
  have BB2 := hid (B2)
  have hz2 := B2.size
  clear q1 B2
  go_wp2_with fail
  refine (ints_any a2 len2 cap2 z2 _ (R2.out.below BB2.out (Nat.le_refl _)) (by omega)).mono ?_
  rintro e w3 ⟨p2, rfl, q2, B3⟩
  have Q2 := hid (q2)
  have BB3 := hid (B3)
  have hz3 := B3.size
  clear q2 B3
  go_wp2_with fail
  refine (ints32_any a3 len3 cap3 z3 _ ((R3.out.below BB2.out (Nat.le_refl _)).below BB3.out (Nat.le_refl _)) (by omega)).mono ?_
  rintro e w4 ⟨p3, rfl, q3, B4⟩
  have Q3 := hid (q3)
  have BB4 := hid (B4)
  have hz4 := B4.size
  clear q3 B4
  go_wp2_with fail
  refine (ints_any p1 len1 len1 _ _ ((Q1.out.below BB3.out (Nat.le_refl _)).below BB4.out (Nat.le_refl _)) (by omega)).mono ?_
  rintro e w5 ⟨s1, rfl, t1, B5⟩
  have T1 := hid (t1)
  have BB5 := hid (B5)
  have hz5 := B5.size
  clear t1 B5
  go_wp2_with fail
  refine (ints_any p2 len2 len2 _ _ ((Q2.out.below BB4.out (Nat.le_refl _)).below BB5.out (Nat.le_refl _)) (by omega)).mono ?_
  rintro e w6 ⟨s2, rfl, t2, B6⟩
  have BB6 := hid (B6)
  have hz6 := B6.size
  clear t2 B6
  go_wp2_with fail
  refine (ints32_any p3 len3 len3 _ _ ((Q3.out.below BB5.out (Nat.le_refl _)).below BB6.out (Nat.le_refl _)) (by omega)).mono ?_
  rintro e w7 ⟨s3, rfl, t3, B7⟩
  have BB7 := hid (B7)
  have hz7 := B7.size
  clear t3 B7
  go_wp2_with fail
  refine (new_any n s1 len1 len1 s2 len2 len2 s3 len3 len3 l _).mono ?_
  rintro e w8 ⟨rfl, hw8⟩
  have hz8 : w8.heap.size = w7.heap.size + 1 := by rw [hw8]; simp
  have B8 : Below w7.heap.size w7 w8 := by rw [hw8]; exact (Below.refl _ _).alloc (Nat.le_refl _) _
  have BW : Hid (Below w.heap.size w w8) := (((((((BB1.out.trans (BB2.out.mono hz1)).trans (BB3.out.mono (by omega))).trans (BB4.out.mono (by omega))).trans (BB5.out.mono (by omega))).trans (BB6.out.mono (by omega))).trans (BB7.out.mono (by omega))).trans (B8.mono (by omega)))
  have hp1 : 0 < len1 := SH.out.pos
  obtain ⟨fb, fo, hs1, hf, hfw⟩ := (((T1.out.below BB6.out (Nat.le_refl _)).below BB7.out (Nat.le_refl _)).below B8 (Nat.le_refl _)).at hp1
  subst hs1
  have c0 : w8.cell? ⟨w7.heap.size, 0, none⟩ = some (.int .i64 n) := by rw [hw8]; simp
  have c1 : w8.cell? ⟨w7.heap.size, 1, none⟩ = some (.slice (some ⟨fb, fo, none⟩) len1 len1) := by rw [hw8]; simp
  have HF : Hid (∀ i, i < len1 → w8.cell? ⟨fb, fo + i, none⟩ = some (.int .i64 (elt z1 i)) ∧ elt z1 i ≤ 9223372036854775807) := by
    intro i hi
    have e1 : ((z1.take len1).take len1).getD i 0 = elt z1 i := by rw [elt_take _ _ _ hi, elt_take _ _ _ hi, elt_def]
    have h1 := hf i hi
    have h2 := hfw i hi
    rw [e1] at h1 h2
    refine ⟨h1, ?_⟩
    exact (bounds_i64 h2).2
  have hfb : fb < w8.heap.size := World.block_lt_of_cell? w8 _ (HF.out 0 hp1).1
  have hb8 : w7.heap.size < w8.heap.size := by omega
  clear hf hfw hw8 B8 BB1 BB2 BB3 BB4 BB5 BB6 BB7 R1 R2 R3 Q1 Q2 Q3 T1 hz1 hz2 hz3 hz4 hz5 hz6 hz7 hz8 hne
  have hlen2 : Hid ((len2 : Int) - 1 = elt z1 (len1 - 1)) := hid SH.out.last.symm
  go_wp2
  go_loopw [12, 13] (fun t u wr => ∃ (k q : Nat) (y : Int), (k : Int) ≤ n ∧ u = .int .i64 k ∧ t = .int .i64 y ∧ Hid (y = elt z1 q) ∧ Hid ((q : Int) = tri n k) ∧ Below w8.heap.size w8 wr)
    (fun _ u _ => (n - intOf u).toNat)
  case atStart => exact ⟨0, 0, 0, by omega, rfl, rfl, hid SH.out.zero.symm, hid (tri_zero n).symm, Below.refl _ _⟩
  case round =>
    obtain ⟨k, q, y, hk, rfl, rfl, HY, HQ, hbel⟩ := hrel
    by_cases hkn : (k : Int) < n
    · go_wp2
      go_loopw [12, 14] (fun t x wr => ∃ (j q : Nat) (y : Int), (k : Int) + 1 ≤ j ∧ (j : Int) ≤ n ∧ x = .int .i64 j ∧ t = .int .i64 y ∧ Hid (y = elt z1 q) ∧ Hid ((q : Int) = tri n k + j - k - 1) ∧ Below w8.heap.size w8 wr)
        (fun _ x _ => (n - intOf x).toNat)
      case atStart => exact ⟨k + 1, q, y, by omega, by omega, by go_num, rfl, HY, hid (by have := HQ.out; omega), hbel⟩
      case round =>
        clear hbel HY HQ
        obtain ⟨j, q, y, hj, hjn, rfl, rfl, HY, HQ, hbel⟩ := hrel
        by_cases hlt : (j : Int) < n
        · have hq1 : q + 1 < len1 := by
            have a := HQ.out
            have b := hlen.out
            have c := pair_lt n k j (by omega) hlt
            omega
          obtain ⟨z, hz⟩ : ∃ z, z = elt z1 (q + 1) := ⟨_, rfl⟩
          have HZ := hid hz
          have y0 : 0 ≤ y := by rw [HY.out]; exact SH.out.nonneg q (by omega)
          have yz : y ≤ z := by rw [HY.out, hz]; exact SH.out.mono q hq1
          have zm : z ≤ 9223372036854775807 := by rw [hz]; exact (HF.out (q + 1) hq1).2
          have cy : wr.cell? ⟨fb, fo + q, none⟩ = some (.int .i64 y) := by rw [HY.out]; exact (hbel.cell (p := ⟨fb, fo + q, none⟩) hfb).trans (HF.out q (by omega)).1
          have cz : wr.cell? ⟨fb, fo + (q + 1), none⟩ = some (.int .i64 z) := by rw [hz]; exact (hbel.cell (p := ⟨fb, fo + (q + 1), none⟩) hfb).trans (HF.out (q + 1) hq1).1
          have d0 : wr.cell? ⟨w7.heap.size, 0, none⟩ = some (.int .i64 n) := (hbel.cell (p := ⟨w7.heap.size, 0, none⟩) hb8).trans c0
          have d1 : wr.cell? ⟨w7.heap.size, 1, none⟩ = some (.slice (some ⟨fb, fo, none⟩) len1 len1) := (hbel.cell (p := ⟨w7.heap.size, 1, none⟩) hb8).trans c1
          clear hz
          have HC := hid (count_any w7.heap.size n k j fb fo len1 len1 q y z (hid (by have := HQ.out; omega)) (by omega) (by omega) hlt hn wr hq1 (by omega) d0 d1 cy cz y0 yz zm)
          have HB := hid hbel
          clear hbel cy cz d0 d1 c0 c1
          go_wp2_with (go_at_call 10; refine HC.out.mono ?_; rintro e w' ⟨rfl, kk, rfl⟩)
          go_roundw
          case rel => exact ⟨j + 1, q + 1, z, by omega, by omega, by go_num, by go_num, HZ, hid (by have := HQ.out; omega), below_drewN HB.out _⟩
          case measure => simp [intOf]; omega
        · have hjn' : (j : Int) = n := by omega
          have HJ := hid hjn'
          have HB := hid hbel
          clear hjn' hbel c0 c1
          go_wp2
          go_roundw
          case rel => exact ⟨k + 1, q, y, by omega, by go_num, rfl, HY, hid (by have := HQ.out; have := HJ.out; have := tri_succ n k; rw [show ((k + 1 : Nat) : Int) = (k : Int) + 1 from by omega]; omega), HB.out⟩
          case measure => simp [intOf]; omega
    · have hkn' : (k : Int) = n := by omega
      have hql : q = len1 - 1 := by
        have a := HQ.out
        have b := hlen.out
        rw [hkn', tri_last] at a
        omega
      have hyb : (y == (len2 : Int) - 1) = true := by rw [beq_iff_eq, HY.out, hql]; exact hlen2.out.symm
      have HB := hid hbel
      clear hkn' hql hbel c0 c1
      go_wp2
      go_ret
      exact ⟨by simp, BW.out.trans (HB.out.mono BW.out.size)⟩

/-! ### THE WAYS ON WHICH A SIZE IS OUT OF RANGE: it answers true at once -/
set_option maxHeartbeats 1000000 in
theorem law_sizes (n : Int) (a1 : Option Addr) (len1 cap1 : Nat) (a2 : Option Addr) (len2 cap2 : Nat) (a3 : Option Addr) (len3 cap3 : Nat) (l : Int) (w : World)
    (hm1 : len1 ≤ 9223372036854775807) (hm2 : len2 ≤ 9223372036854775807) (hm3 : len3 ≤ 9223372036854775807) (h : ¬ (len1 ≤ 32768 ∧ len2 ≤ 32768 ∧ len3 ≤ 65536)) :
    Calls Try.prog 4 #[.int .i64 n, .slice a1 len1 cap1, .slice a2 len2 cap2, .slice a3 len3 cap3, .int .i64 l] w fun e w' => e = .returned (.bool true) ∧ Below w.heap.size w w' := by
  by_cases c1 : len1 ≤ 32768
  · by_cases c2 : len2 ≤ 32768
    · have c3 : ¬ len3 ≤ 65536 := fun h3 => h ⟨c1, c2, h3⟩
      clear h
      go_enter Try.func4, Try.ntmps4
      go_wp2_with (go_at_call 11; refine (bytes_any n a1 len1 cap1 a2 len2 cap2 a3 len3 cap3 l _ (by omega) (by omega) (by omega)).mono ?_; rintro e w' ⟨⟨b, rfl⟩, rfl⟩; cases b)
      all_goals (go_ret; exact ⟨rfl, Below.refl _ _⟩)
    · clear h
      go_enter Try.func4, Try.ntmps4
      go_wp2_with (go_at_call 11; refine (bytes_any n a1 len1 cap1 a2 len2 cap2 a3 len3 cap3 l _ (by omega) (by omega) (by omega)).mono ?_; rintro e w' ⟨⟨b, rfl⟩, rfl⟩; cases b)
      all_goals (go_ret; exact ⟨rfl, Below.refl _ _⟩)
  · clear h
    go_enter Try.func4, Try.ntmps4
    go_wp2_with (go_at_call 11; refine (bytes_any n a1 len1 cap1 a2 len2 cap2 a3 len3 cap3 l _ (by omega) (by omega) (by omega)).mono ?_; rintro e w' ⟨⟨b, rfl⟩, rfl⟩; cases b)
    all_goals (go_ret; exact ⟨rfl, Below.refl _ _⟩)

set_option maxHeartbeats 1000000 in
theorem law_nodes (n : Int) (a1 : Option Addr) (len1 cap1 : Nat) (a2 : Option Addr) (len2 cap2 : Nat) (a3 : Option Addr) (len3 cap3 : Nat) (l : Int) (w : World)
    (hl1 : len1 ≤ 32768) (hl2 : len2 ≤ 32768) (hl3 : len3 ≤ 65536) (h : ¬ (2 ≤ n ∧ n ≤ 65536)) :
    Calls Try.prog 4 #[.int .i64 n, .slice a1 len1 cap1, .slice a2 len2 cap2, .slice a3 len3 cap3, .int .i64 l] w fun e w' => e = .returned (.bool true) ∧ Below w.heap.size w w' := by
  by_cases c1 : 2 ≤ n
  · have c2 : ¬ n ≤ 65536 := fun h2 => h ⟨c1, h2⟩
    clear h
    go_enter Try.func4, Try.ntmps4
    go_wp2_with (go_at_call 11; refine (bytes_any n a1 len1 cap1 a2 len2 cap2 a3 len3 cap3 l _ (by omega) (by omega) (by omega)).mono ?_; rintro e w' ⟨⟨b, rfl⟩, rfl⟩; cases b)
    all_goals (go_ret; exact ⟨rfl, Below.refl _ _⟩)
  · clear h
    go_enter Try.func4, Try.ntmps4
    go_wp2_with (go_at_call 11; refine (bytes_any n a1 len1 cap1 a2 len2 cap2 a3 len3 cap3 l _ (by omega) (by omega) (by omega)).mono ?_; rintro e w' ⟨⟨b, rfl⟩, rfl⟩; cases b)
    all_goals (go_ret; exact ⟨rfl, Below.refl _ _⟩)

set_option maxHeartbeats 1000000 in
theorem law_pairs (n : Int) (a1 : Option Addr) (len1 cap1 : Nat) (a2 : Option Addr) (len2 cap2 : Nat) (a3 : Option Addr) (len3 cap3 : Nat) (l : Int) (w : World)
    (hl1 : len1 ≤ 32768) (hl2 : len2 ≤ 32768) (hl3 : len3 ≤ 65536) (hn2 : 2 ≤ n) (hn : n ≤ 65536) (h : ¬ ((len1 : Int) = n * (n - 1) / 2 + 1)) :
    Calls Try.prog 4 #[.int .i64 n, .slice a1 len1 cap1, .slice a2 len2 cap2, .slice a3 len3 cap3, .int .i64 l] w fun e w' => e = .returned (.bool true) ∧ Below w.heap.size w w' := by
  obtain ⟨m0, m1⟩ := last_bd n (by omega) hn
  have hne : ((len1 : Int) != n * (n - 1) / 2 + 1) = true := by rw [bne_iff_ne]; exact h
  go_enter Try.func4, Try.ntmps4
  go_wp2_with (go_at_call 11; refine (bytes_any n a1 len1 cap1 a2 len2 cap2 a3 len3 cap3 l _ (by omega) (by omega) (by omega)).mono ?_; rintro e w' ⟨⟨b, rfl⟩, rfl⟩; cases b)
  all_goals (go_ret; exact ⟨rfl, Below.refl _ _⟩)

/-- THE LAW's WALK, whatever the input. -/
theorem law_all (n : Int) (a1 : Option Addr) (len1 cap1 : Nat) (z1 : List Int) (a2 : Option Addr) (len2 cap2 : Nat) (z2 : List Int) (a3 : Option Addr) (len3 cap3 : Nat) (z3 : List Int) (l : Int) (w : World)
    (r1 : InRow .i64 w a1 len1 cap1 z1) (r2 : InRow .i64 w a2 len2 cap2 z2) (r3 : InRow .i32 w a3 len3 cap3 z3) :
    Calls Try.prog 4 #[.int .i64 n, .slice a1 len1 cap1, .slice a2 len2 cap2, .slice a3 len3 cap3, .int .i64 l] w fun e w' => e = .returned (.bool true) ∧ Below w.heap.size w w' := by
  have b1 := r1.len_le
  have b2 := r2.len_le
  have b3 := r3.len_le
  by_cases hs : len1 ≤ 32768 ∧ len2 ≤ 32768 ∧ len3 ≤ 65536
  · obtain ⟨hl1, hl2, hl3⟩ := hs
    by_cases hn : 2 ≤ n ∧ n ≤ 65536
    · by_cases hp : (len1 : Int) = n * (n - 1) / 2 + 1
      · exact law_any n a1 len1 cap1 z1 a2 len2 cap2 z2 a3 len3 cap3 z3 l w r1 r2 r3 hl1 hl2 hl3 hn.1 hn.2 hp
      · exact law_pairs n a1 len1 cap1 a2 len2 cap2 a3 len3 cap3 l w hl1 hl2 hl3 hn.1 hn.2 hp
    · exact law_nodes n a1 len1 cap1 a2 len2 cap2 a3 len3 cap3 l w hl1 hl2 hl3 hn
  · exact law_sizes n a1 len1 cap1 a2 len2 cap2 a3 len3 cap3 l w (by omega) (by omega) (by omega) hs

end Go.Proofs.Qxb6616964a
