/-
  THE CONTRACT OF (*intKeys).reach, THE MAP MADE.
-/
import Derived.Test.Qxb6618180aReach
import Derived.Test.Qxb6618180aMove
import Derived.BigRegion
namespace Go.Proofs.Qxb6618180a
open Go.RowKit Go.WideShapes Go.Maps
set_option linter.unusedVariables false

/-- WHAT reach LEAVES: the words are more, the same keys are held, no key within the words' reach lies in the map. -/
structure Moved (ws : List Nat) (D : DataW Unit) (ws' : List Nat) (D' : DataW Unit) : Prop where
  lt : ∀ v ∈ ws', v < 18446744073709551616
  mem : ∀ k, (bit ws' k || sp D' k) = (bit ws k || sp D k)
  cnt : ones ws' + sz D' = ones ws + sz D
  out : ∀ k, 0 ≤ k → k < 64 * (ws'.length : Int) → sp D' k = false

theorem map_own_ne {w : World} {mb k : Nat} {D : DataW Unit} (hm : w.ownsMap Try.prog 47 unitElem mb k D) {B n cap : Nat} {a : Option Addr} {xs : List Value} (hr : w.ownsRow B 59 1 (.slice a n cap) n xs) : some mb ≠ Value.ownBlock (.slice a n cap) := by
  rcases hr.2 with ⟨e, _⟩ | ⟨g, cap', cur, e, _⟩
  · rw [e]; simp [Value.ownBlock]
  · rw [e] at hr ⊢
    have := map_ne_row hm hr
    simpa [Value.ownBlock] using this

theorem grownBy_setCell_drew (w : World) (a : Addr) (u : Value) : w.grownBy (w.setCell a u).drew (some a.block) :=
  ⟨rfl, rfl, rfl, (grownBy_setCell w a u).size, (grownBy_setCell w a u).block⟩

theorem range_ne_row {w : World} {mb r k c : Nat} {D : DataW Unit} {left : Lit → Bool} (hm : w.ranges Try.prog 47 unitElem mb r k D left c) {B g n cap : Nat} {xs : List Value} (hr : w.ownsRow B 59 1 (.slice (some ⟨g, 0, none⟩) n cap) n xs) : r ≠ g := by
  rintro rfl
  obtain ⟨es, clock, since, seen, c0, _, _, _, _, hb, _⟩ := hm
  rcases hr.2 with ⟨e, _⟩ | ⟨g', cap', cur, e, _, hg, _⟩
  · cases e
  · cases e
    rw [hb] at hg
    cases hg

theorem range_ne_str {w : World} {mb r k c : Nat} {D : DataW Unit} {left : Lit → Bool} (hm : w.ranges Try.prog 47 unitElem mb r k D left c) {sb : Nat} {v0 v1 v2 : Value} (hs : Str w sb v0 v1 v2) : r ≠ sb := by
  rintro rfl
  obtain ⟨es, clock, since, seen, c0, _, _, _, _, hb, _⟩ := hm
  rw [hs] at hb
  cases hb

theorem zeros_lt {ws : List Nat} (h : ∀ v ∈ ws, v < 18446744073709551616) (d : Nat) : ∀ v ∈ ws ++ List.replicate d 0, v < 18446744073709551616 := by
  intro v hv
  rcases List.mem_append.1 hv with h1 | h1
  · exact h v h1
  · rw [List.mem_replicate] at h1
    rw [h1.2]; decide

theorem Moved.of {ws ws' : List Nat} {d : Nat} {D D' : DataW Unit} {left : Lit → Bool} (h : Move (ws ++ List.replicate d 0) D ws' D' left) (hl : ∀ kl, left kl = false) : Moved ws D ws' D' :=
  ⟨h.lt, fun k => by rw [h.mem k, bit_zeros], by rw [h.cnt, ones_append, ones_zeros]; omega, fun k k0 k1 => h.done hl k k0 (by rw [← h.len]; exact k1)⟩

theorem tdiv64 {x : Int} {y : Nat} (h : 0 ≤ x) (hb : x ≤ 9223372036854775807) (hy : x / 64 = (y : Int)) : IntKind.i64.wrap (x.tdiv 64) = (y : Int) := by
  rw [Int.tdiv_eq_ediv_of_nonneg h, hy, IntKind.wrap_i64]; omega
theorem tmod64 {x : Int} {z : Nat} (h : 0 ≤ x) (hz : x % 64 = (z : Int)) : x.tmod 64 = (z : Int) := by
  rw [Int.tmod_eq_emod_of_nonneg h, hz]
theorem wrap_small {z : Nat} (h : (z : Int) < 64) : IntKind.i64.wrap (z : Int) = (z : Int) := by
  rw [IntKind.wrap_i64]; omega

theorem or_word (v z : Nat) (hv : v < 18446744073709551616) (hz : (z : Int) < 64) : bits .or .u64 (v : Int) (IntKind.u64.wrap (2 ^ z)) = ((v ||| 2 ^ z : Nat) : Int) := by
  have hp : 2 ^ z < 2 ^ 64 := Nat.pow_lt_pow_right (by omega) (by omega)
  have e : ((2 : Int) ^ z) = ((2 ^ z : Nat) : Int) := by simp
  have e2 : IntKind.u64.wrap ((2 : Int) ^ z) = ((2 ^ z : Nat) : Int) := by
    rw [e, IntKind.wrap_u64]
    exact Int.emod_eq_of_lt (Int.natCast_nonneg _) (Int.ofNat_lt.2 hp)
  rw [e2]
  exact u64_or_nat v (2 ^ z) hv hp

theorem lay_cells {ws : List Nat} {x : Int} {y z : Nat} (hy : x / 64 = (y : Int)) (hz : x % 64 = (z : Int)) : (cellsOf ws).set y (.int .u64 ((ws.getD y 0 ||| 2 ^ z : Nat) : Int)) = cellsOf (lay ws x) := by
  rw [cellsOf_set]
  unfold lay
  rw [hy, hz, Int.toNat_natCast, Int.toNat_natCast]

set_option maxHeartbeats 2000000 in
/-- The map is made: the keys within reach move. -/
theorem reach_map (B sb n : Nat) (a : Option Addr) (len cap mb : Nat) (ws : List Nat) (D : DataW Unit) (key : Int) (w : World) (hs : Str w sb (.slice a len cap) (.map (some mb)) (.int .i64 n)) (hown : w.ownsRow B 59 1 (.slice a len cap) len (cellsOf ws))
    (hm : w.ownsMap Try.prog 47 unitElem mb (sz D) D) (hB : B ≤ w.heap.size) (hsb : B ≤ sb) (hmb : B ≤ mb) (hk : (Lit.int .i64 key).wf = true)
    (hn : n ≤ 4096) (hl : len ≤ 8192) (h0 : 64 * (len : Int) ≤ key) (h1 : key < roomOf n) (hlt : Hid (∀ v ∈ ws, v < 18446744073709551616)) (hdis : Hid (∀ k, sp D k = true → bit ws k = false)) :
    Calls Try.prog 35 #[.pointer (some ⟨sb, 0, none⟩), .int .i64 key] w fun e w' => e = .returned (.bool true) ∧ ∃ g cap' d ws' D', w'.ownsRow B 59 1 (.slice (some ⟨g, 0, none⟩) (len + d) cap') (len + d) (cellsOf ws') ∧
      Str w' sb (.slice (some ⟨g, 0, none⟩) (len + d) cap') (.map (some mb)) (.int .i64 n) ∧ w'.ownsMap Try.prog 47 unitElem mb (sz D') D' ∧ key < 64 * ((len + d : Nat) : Int) ∧ 64 * (len + d) ≤ roomOf n ∧ Below B w w' ∧ Moved ws D ws' D' := by
  have c0 := hs.c0
  have c1 := hs.c1
  have c2 := hs.c2
  have hr := room_walk n
  have hm' := room_words n
  obtain ⟨R, hR⟩ : ∃ R, R = roomOf n := ⟨_, rfl⟩
  have hRb := (room_ge n).2.2
  have hRm := room_mod n
  rw [← hR] at hr hm' h1 hRb hRm
  obtain ⟨M, hM⟩ : ∃ M : Int, ((R / 64 : Nat) : Int) = M := ⟨_, rfl⟩
  rw [hM] at hm'
  obtain ⟨q, hq⟩ : ∃ q : Nat, key / 64 = (q : Int) := ⟨(key / 64).toNat, by omega⟩
  obtain ⟨X, hX⟩ : ∃ X : Int, (if 2 * (len : Int) < (q : Int) + 1 then (q : Int) + 1 else 2 * (len : Int)) = X := ⟨_, rfl⟩
  have hXge : (q : Int) + 1 ≤ X ∧ 2 * (len : Int) ≤ X := by split at hX <;> omega
  obtain ⟨W, hW⟩ : ∃ W : Nat, (if M < X then M else X) = (W : Int) := ⟨(if M < X then M else X).toNat, by split <;> omega⟩
  have hWb : q < W ∧ (W : Int) ≤ M ∧ len < W := by split at hW <;> omega
  obtain ⟨d, hd⟩ : ∃ d : Nat, W = len + d := ⟨W - len, by omega⟩
  obtain ⟨i0, hi, hz0, hz1, hz2⟩ := info_parts Try.info59
  have HI := hid (And.intro hi (And.intro hz0 (And.intro hz1 hz2)))
  have HD : Hid ((W : Int) - (len : Int) = (d : Int)) := by show (W : Int) - (len : Int) = (d : Int); omega
  have hdp : 0 < d := by omega
  have FK : Hid (key < 64 * ((len + d : Nat) : Int)) := by show key < 64 * ((len + d : Nat) : Int); omega
  have FR : Hid (64 * (len + d) ≤ roomOf n) := by show 64 * (len + d) ≤ roomOf n; omega
  have hsum : len + d ≤ 1048576 := by omega
  have HS := hid hs
  have HO := hid hown
  have HM := hid hm
  have HR := hid hR
  have HMM := hid hM
  have HDD := hid hd
  have hXgeH := hid hXge
  clear hs hk hR hM hd hown hm hi hz0 hz1 hz2 hXge
  have hWb1 := hWb.1
  have hWb2 := hWb.2.1
  have hWb3 := hWb.2.2
  clear hWb
  go_enter Try.func35, Try.ntmps35
  go_wp2
  clear hr hm' hX hW
  have HOD := hid HO.out.drew
  have HSD : Hid (Str w.drew sb (.slice a len cap) (.map (some mb)) (.int .i64 n)) := HS.out
  have f0 := HS.out.fr 0
  have hd1 : (W : Int) - (len : Int) ≤ (d : Int) := by have := HDD.out; omega
  have hd2 : (d : Int) ≤ (W : Int) - (len : Int) := by have := HDD.out; omega
  go_region_law (refine step_append_zeros_own rfl (.tmp 36) (.tmp 43) 48 3 rfl B 59 i0 (.int .u64 0) .i64 .i64 Try.underlying48 Try.underlying3 HI.out.1 HI.out.2.1 HI.out.2.2.1 HI.out.2.2.2 rfl rfl a len cap (cellsOf ws) rfl HOD.out d _ rfl (by first | omega | (rw [IntKind.wrap_i64]; omega)) hdp hsum hB ?_; intro g cap' w1 hown1 hgrow1; have hs1 := Str.kept HSD.out hgrow1 (by exact own_ne HS.out HO.out); have d0 := hs1.c0; have e0 := hs1.fr 0)
  all_goals (
    have S2 := hid (hs1.set0 (.slice (some ⟨g, 0, none⟩) (len + d) cap'))
    have ngs : sb ≠ g := hs1.ne_row hown1
    have O2 : Hid ((w1.setCell ⟨sb, 0, none⟩ (.slice (some ⟨g, 0, none⟩) (len + d) cap')).ownsRow B 59 1 (.slice (some ⟨g, 0, none⟩) (len + d) cap') (len + d) (cellsOf (ws ++ List.replicate d 0))) := by
      rw [cellsOf_append, cellsOf_zeros]
      exact hown1.kept (grownBy_setCell w1 _ _) (by right; simp [Value.ownBlock]; exact fun e => ngs e.symm)
    have B2 : Hid (Below B w (w1.setCell ⟨sb, 0, none⟩ (.slice (some ⟨g, 0, none⟩) (len + d) cap'))) :=
      (((Below.refl B w).drew).grown hgrow1 hB (fun k hk => (HO.out.lt k hk).1)).setCell hsb _
    have nms : mb ≠ sb := (HS.out.ne_map HM.out).symm
    have M1 : w1.ownsMap Try.prog 47 unitElem mb (sz D) D := HM.out.drew.kept hgrow1 (map_own_ne HM.out HO.out)
    have M2 : Hid ((w1.setCell ⟨sb, 0, none⟩ (.slice (some ⟨g, 0, none⟩) (len + d) cap')).ownsMap Try.prog 47 unitElem mb (sz D) D) := M1.setCell nms _
    have c1' := S2.out.c1
    have hBs : B ≤ w1.heap.size := Nat.le_trans hB (by have := hgrow1.size; exact this)
    clear hown1 hgrow1 hs1 d0 e0 c0 c1 c2 f0 M1
    go_wp2_with (at_range; refine wpList_range_own _ rfl _ 49 rfl 47 60 law47 Try.underlying49 _ mb (sz D) D rfl M2.out ?_; intro w3 hrg3 hg3 hs3)
    go_frame
    have S3 := hid (S2.out.kept hg3 (by simp))
    have O3 := hid (O2.out.kept hg3 (by right; simp [Value.ownBlock]))
    have B3 := hid (B2.out.grown hg3 (by simp [World.setCell]; exact hBs) (fun k h => by cases h))
    have hBr : B ≤ (w1.setCell ⟨sb, 0, none⟩ (.slice (some ⟨g, 0, none⟩) (len + d) cap')).heap.size := by simp [World.setCell]; exact hBs
    clear S2 O2 B2 M2 hg3 c1'
    generalize (w1.setCell ⟨sb, 0, none⟩ (.slice (some ⟨g, 0, none⟩) (len + d) cap')).heap.size = r at hrg3 hs3 hBr ⊢
    have HW : Hid (((ws ++ List.replicate d 0).length : Nat) = W) := by show (ws ++ List.replicate d 0).length = W; have := HO.out.1; rw [cellsOf_length] at this; simp; have := HDD.out; omega
    have MV0 : Move (ws ++ List.replicate d 0) D (ws ++ List.replicate d 0) D (Maps.has D) := Move.start (zeros_lt hlt.out d) (fun k hk => by rw [bit_zeros]; exact hdis.out k hk)
    go_loopw [7] (fun _ wr => ∃ (left : Lit → Bool) (cnt : Nat) (ws' : List Nat) (D' : DataW Unit), wr.ranges Try.prog 47 unitElem mb r (sz D) D' left cnt ∧ Str wr sb (.slice (some ⟨g, 0, none⟩) (len + d) cap') (.map (some mb)) (.int .i64 n) ∧
        wr.ownsRow B 59 1 (.slice (some ⟨g, 0, none⟩) (len + d) cap') (len + d) (cellsOf ws') ∧ Below B w wr ∧ Move (ws ++ List.replicate d 0) D ws' D' left)
      (fun _ wr => wr.rangeLeft mb r)
    case atStart => exact ⟨_, _, _, _, hrg3, S3.out, O3.out, B3.out, MV0⟩
    case round =>
      clear hrg3 S3 O3 B3 MV0
      obtain ⟨left, cnt, ws', D', hrg, hS, hO, hB', hMv⟩ := hrel
      go_wp2_with (at_next; refine wpList_next_set _ rfl _ rfl 47 .i64 law47 Try.underlying47 mb r (sz D) D' left cnt rfl hrg ?_ ?_)
      · intro hl0
        have FIN := hid (And.intro hO (And.intro hS (And.intro (tight hrg.owns) (And.intro hB' (Moved.of hMv hl0)))))
        clear hO hS hrg hB' hMv hl0
        go_wp2
        go_ret
        exact ⟨rfl, g, cap', d, ws', D', FIN.out.1, FIN.out.2.1, FIN.out.2.2.1, FK.out, FR.out, FIN.out.2.2.2.1, FIN.out.2.2.2.2⟩
      · intro x w4 cnt4 hwx hlx hhas hrg4 hlt4 hg4 hs4 hen
        have hS4 := hS.kept hg4 (by have := range_ne_str hrg hS; simp; exact fun e => this e.symm)
        have hO4 := hO.kept hg4 (by right; have := range_ne_row hrg hO; simp [Value.ownBlock]; exact fun e => this e.symm)
        have hB4 := hB'.grown hg4 (Nat.le_trans hB hB'.size) (fun k hk => by cases hk; exact hBr)
        have HML := hid hrg.left_eq
        have d1 := hS4.c1
        clear hS hO hB' hrg hg4
        by_cases hx0 : 0 ≤ x
        · have hg0 : decide (0 ≤ x) = true := decide_eq_true hx0
          by_cases hx1 : x < (W : Int) * 64
          · have hlen' := hMv.len
            have MV := hid (hMv.moved (hrg4.owns.tidy law47) x hhas hx0 (by have := HW.out; omega))
            obtain ⟨y, hy⟩ : ∃ y : Nat, x / 64 = (y : Int) := ⟨(x / 64).toNat, by omega⟩
            obtain ⟨z, hz⟩ : ∃ z : Nat, x % 64 = (z : Int) := ⟨(x % 64).toNat, by omega⟩
            have hz64 : (z : Int) < 64 := by omega
            have hyW : y < W := by omega
            have hyl : (y : Int) < (len : Int) + (d : Int) := by have := HDD.out; omega
            have hyl' : y < ws'.length := by have := HW.out; omega
            have hyd := tdiv64 hx0 (by omega) hy
            have hzd := tmod64 hx0 hz
            have hzw := wrap_small hz64
            obtain ⟨v, hv⟩ : ∃ v, v = ws'.getD y 0 := ⟨_, rfl⟩
            have e0 := hS4.c0
            have ec : w4.cell? ⟨g, y, none⟩ = some (.int .u64 (v : Nat)) := by rw [hO4.cellAt y (by have := HDD.out; omega), cellsOf_get ws' y hyl', hv]
            have ef := hO4.frozenAt y
            have hvl : v < 18446744073709551616 := by rw [hv]; exact getD_lt hMv.lt y
            have EOR := or_word v z hvl hz64
            have ngg : g ≠ sb := (hS4.ne_row hO4).symm
            have nmg : mb ≠ g := map_ne_row hrg4.owns hO4
            have nrg : r ≠ g := range_ne_row hrg4 hO4
            have O5 : Hid ((w4.setCell ⟨g, y, none⟩ (.int .u64 (bits .or .u64 (v : Int) (IntKind.u64.wrap (2 ^ z))))).drew.ownsRow B 59 1 (.slice (some ⟨g, 0, none⟩) (len + d) cap') (len + d) (cellsOf (lay ws' x))) := by
              have h := (hO4.stored y (.int .u64 (bits .or .u64 (v : Int) (IntKind.u64.wrap (2 ^ z))))).1
              have h2 : (cellsOf ws').set y (.int .u64 (bits .or .u64 (v : Int) (IntKind.u64.wrap (2 ^ z)))) = cellsOf (lay ws' x) := by rw [EOR, hv]; exact lay_cells hy hz
              rw [h2] at h
              exact h.drew
            have S5 : Hid (Str (w4.setCell ⟨g, y, none⟩ (.int .u64 (bits .or .u64 (v : Int) (IntKind.u64.wrap (2 ^ z))))).drew sb (.slice (some ⟨g, 0, none⟩) (len + d) cap') (.map (some mb)) (.int .i64 n)) := hS4.kept (grownBy_setCell_drew w4 _ _) (by simp; exact fun e => ngg e.symm)
            have G5 : Hid ((w4.setCell ⟨g, y, none⟩ (.int .u64 (bits .or .u64 (v : Int) (IntKind.u64.wrap (2 ^ z))))).drew.ranges Try.prog 47 unitElem mb r (sz D) D' (fun z => left z && !z.sameKey (.int .i64 x)) cnt4) := hrg4.kept (grownBy_setCell_drew w4 _ _) (by simpa using nmg) (by simpa using nrg)
            have B5 : Hid (Below B w (w4.setCell ⟨g, y, none⟩ (.int .u64 (bits .or .u64 (v : Int) (IntKind.u64.wrap (2 ^ z))))).drew) := (hB4.setCell (p := ⟨g, y, none⟩) (hO4.lt g (by simp [Value.ownBlock])).1 _).drew
            have HV := hid hv
            have HLT := hid hlt4
            clear hlen' hv hvl EOR hS4 hO4 hB4 hrg4 hlt4 hMv hlx hhas hs4 hyl' nrg
            go_wp2
            go_region
            go_wp2_with (at_delete; refine wpList_delete_ranges _ rfl _ _ 49 47 rfl 60 law47 Try.underlying49 _ mb r (sz D) _ _ _ rfl G5.out _ _ rfl (keyOf_int_mk Try.underlying47 hwx) ?_; intro w6 cnt6 hrg6 hle6 hturn6; go_frame)
            rw [strike_twice] at hrg6
            have hg6 := hturn6.grown
            have B6 := B5.out.grown hg6 (Nat.le_trans hB B5.out.size) (fun k hk => by cases hk; exact hmb)
            have S6 := S5.out.kept hg6 (by simp; exact fun e => nms e.symm)
            have O6 := O5.out.kept hg6 (by right; simp [Value.ownBlock]; exact fun e => nmg e.symm)
            go_roundw
            case rel => exact ⟨_, cnt6, lay ws' x, D'.del (.int .i64 x), hrg6, S6, O6, B6, MV.out⟩
            case measure => rw [hrg6.left_eq, HML.out]; have := HLT.out; omega
          · have MS := hid (hMv.stays x (by have := HW.out; omega))
            go_wp2
            go_roundw
            case rel => exact ⟨_, cnt4, ws', D', hrg4, hS4, hO4, hB4, MS.out⟩
            case measure => rw [hrg4.left_eq, HML.out]; exact hlt4
        · have hg0 : decide (0 ≤ x) = false := decide_eq_false hx0
          have MS := hid (hMv.stays x (by omega))
          go_wp2
          go_roundw
          case rel => exact ⟨_, cnt4, ws', D', hrg4, hS4, hO4, hB4, MS.out⟩
          case measure => rw [hrg4.left_eq, HML.out]; exact hlt4)

end Go.Proofs.Qxb6618180a
