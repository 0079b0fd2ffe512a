/-
  THE WALK OF THE LAW.
-/
import Derived.Test.Qxb6618180aAddIn
import Derived.Test.Qxb6618180aOnes
import Derived.Test.Qxb6618180aHolds
namespace Go.Proofs.Qxb6618180a
open Go.RowKit Go.WideShapes Go.Maps
set_option linter.unusedVariables false

/-- A SLICE OF INTEGERS THAT CAME IN: it is nil; or it leads to a row of 'cap' cells, the numbers 'zs' (the first 'len' are its elements). -/
def InRow (k : IntKind) (w : World) (a : Option Addr) (len cap : Nat) (zs : List Int) : Prop :=
  (a = none ∧ len = 0 ∧ cap = 0 ∧ zs = []) ∨
  ∃ x, a = some x ∧ len ≤ cap ∧ cap ≤ maxLen ∧ zs.length = cap ∧ (∀ i, i < zs.length → w.cell? (x.add i) = some (.int k (zs.getD i 0))) ∧ ∀ n ∈ zs, (Lit.int k n).wf = true

theorem InRow.len_le {k : IntKind} {w : World} {a : Option Addr} {len cap : Nat} {zs : List Int} (h : InRow k w a len cap zs) : len ≤ zs.length ∧ zs.length ≤ 9223372036854775807 := by
  rcases h with ⟨_, rfl, _, rfl⟩ | ⟨x, _, h1, h2, h3, _⟩
  · simp
  · unfold maxLen at h2; omega

/-- A slice that has elements: where they lie. -/
theorem InRow.at {k : IntKind} {w : World} {a : Option Addr} {len cap : Nat} {zs : List Int} (h : InRow k w a len cap zs) (hp : 0 < len) :
    ∃ b off, a = some ⟨b, off, none⟩ ∧ b < w.heap.size ∧ (∀ i, i < len → w.cell? ⟨b, off + i, none⟩ = some (.int k (zs.getD i 0))) ∧ ∀ i, i < len → (Lit.int k (zs.getD i 0)).wf = true := by
  rcases h with ⟨_, rfl, _⟩ | ⟨⟨b, off, spot⟩, rfl, h1, h2, h3, h4, h5⟩
  · omega
  · have hs : spot = none := by simpa [Addr.add] using World.cell?_spot (h4 0 (by omega))
    subst hs
    have hc : ∀ i, i < len → w.cell? ⟨b, off + i, none⟩ = some (.int k (zs.getD i 0)) := fun i hi => by rw [← add_plain]; exact h4 i (by omega)
    refine ⟨b, off, rfl, World.block_lt_of_cell? w _ (hc 0 hp), hc, fun i hi => h5 _ ?_⟩
    rw [List.getD_eq_getElem?_getD, List.getElem?_eq_getElem (by omega)]; exact List.getElem_mem _

/-- IS k AMONG THE FIRST i NUMBERS? -/
def among (zs : List Int) (i : Nat) (k : Int) : Bool := (zs.take i).any (· == k)

theorem among_zero (zs : List Int) (k : Int) : among zs 0 k = false := by simp [among]
theorem among_succ (zs : List Int) (i : Nat) (k : Int) (h : i < zs.length) : among zs (i + 1) k = (among zs i k || (k == zs.getD i 0)) := by
  unfold among
  rw [List.take_succ_eq_append_getElem h, List.any_append, List.getD_eq_getElem?_getD, List.getElem?_eq_getElem h]
  simp [BEq.comm]
theorem among_hit {zs : List Int} {i j : Nat} (h : j < i) (hi : i ≤ zs.length) : among zs i (zs.getD j 0) = true := by
  unfold among
  rw [List.any_eq_true]
  refine ⟨zs.getD j 0, ?_, by simp⟩
  rw [List.getD_eq_getElem?_getD, List.getElem?_eq_getElem (by omega)]
  exact List.mem_take_iff_getElem.2 ⟨j, by omega, rfl⟩

/-- What is held outlives whatever leaves the old blocks alone. -/
theorem Rep.below {w w' : World} {B sb : Nat} {a : Option Addr} {len cap : Nat} {mo : Option Nat} {ws : List Nat} {D : DataW Unit} {n : Nat} (h : Rep w B sb a len cap mo ws D n) (hb : Below w.heap.size w w') : Rep w' B sb a len cap mo ws D n := by
  have hg : w.grownBy w' none := ⟨hb.os, hb.tape, hb.output, hb.size, fun k hk _ => hb.block k hk⟩
  refine ⟨h.str.kept hg (by simp), h.row.kept hg ?_, ?_, h.sbB, h.lt⟩
  · cases e : Value.ownBlock (.slice a len cap) with
    | none => exact .inl rfl
    | some g => right; simp
  · rcases h.map with h1 | ⟨mb, rfl, h2, h3⟩
    · exact .inl h1
    · exact .inr ⟨mb, rfl, h2, h3.kept hg (by simp)⟩

theorem Rep.start (w : World) : Rep (w.alloc (.cells #[.slice none 0 0, .map none, .int .i64 0] 57)) w.heap.size w.heap.size none 0 0 none [] (.map []) 0 :=
  ⟨heap_alloc_new w _, World.ownsRow_nil _ _ _ _, .inl ⟨rfl, rfl⟩, Nat.le_refl _, fun v hv => by simp at hv⟩

theorem Abs.start : Abs [] (.map []) 0 := ⟨fun k _ _ => sp_empty k, rfl, Nat.zero_le _⟩

theorem Added.old {w w' : World} {B sb : Nat} {ws : List Nat} {D : DataW Unit} {n : Nat} {key : Int} (h : Added w w' B sb ws D n key) (hh : held ws D key = true) :
    ∃ a' len' cap' mo' ws' D', Rep w' B sb a' len' cap' mo' ws' D' n ∧ Abs ws' D' n ∧ (∀ k, held ws' D' k = (held ws D k || (k == key))) ∧ Below B w w' := by
  obtain ⟨a', len', cap', mo', ws', D', h1, h2, h3, h4⟩ := h
  rw [hh] at h1 h2
  exact ⟨a', len', cap', mo', ws', D', h1, h2, h3, h4⟩
theorem Added.new {w w' : World} {B sb : Nat} {ws : List Nat} {D : DataW Unit} {n : Nat} {key : Int} (h : Added w w' B sb ws D n key) (hh : held ws D key = false) :
    ∃ a' len' cap' mo' ws' D', Rep w' B sb a' len' cap' mo' ws' D' (n + 1) ∧ Abs ws' D' (n + 1) ∧ (∀ k, held ws' D' k = (held ws D k || (k == key))) ∧ Below B w w' := by
  obtain ⟨a', len', cap', mo', ws', D', h1, h2, h3, h4⟩ := h
  rw [hh] at h1 h2
  exact ⟨a', len', cap', mo', ws', D', h1, h2, h3, h4⟩

/-- The dense bits stay within the law's own room. -/
theorem Abs.fits {ws : List Nat} {D : DataW Unit} {n len : Nat} (h : Abs ws D n) (hl : ws.length = len) : (1024 ≤ n ∧ 64 * (len : Int) ≤ 64 * ((n : Int) + 1)) ∨ (n < 1024 ∧ 64 * (len : Int) ≤ 65536) := by
  have := h.room
  unfold roomOf at this
  split at this <;> omega

theorem held_start (k : Int) : held [] (.map []) k = false := by
  unfold held
  rw [sp_empty, Bool.or_false]
  by_cases h : 0 ≤ k
  · exact bit_far [] k (by simpa using h)
  · exact bit_neg [] k (by omega)

theorem len_eq {w : World} {B : Nat} {mo : Option Nat} {D : DataW Unit} (hm : InMap w B mo D) (ty : TypeId) : (Builtin.len_ #[49] ty #[.map mo]).run Try.prog w = .ok (.int .i64 (sz D : Nat)) w := by
  rcases hm with ⟨rfl, rfl⟩ | ⟨mb, rfl, _, h⟩
  · exact Maps.len_nil Try.underlying49 ty
  · exact h.len Try.underlying49 ty

set_option maxRecDepth 100000 in
set_option maxHeartbeats 4000000 in
theorem law_any (a0 : Option Addr) (len0 cap0 : Nat) (z0 : List Int) (a1 : Option Addr) (len1 cap1 : Nat) (z1 : List Int) (w : World)
    (r0 : InRow .i64 w a0 len0 cap0 z0) (r1 : InRow .i64 w a1 len1 cap1 z1) (hl0 : len0 ≤ 2048) (hl1 : len1 ≤ 4096) :
    Calls Try.prog 7 #[.slice a0 len0 cap0, .slice a1 len1 cap1] w fun e w' => e = .returned (.bool true) ∧ Below w.heap.size w w' := by
  have hz0 := r0.len_le.1
  have R0 := hid r0
  have R1 := hid r1
  clear r0 r1
  go_enter Try.func7, Try.ntmps7
  go_wp2_with (first | (go_at_call 21; refine (bytes_any a0 len0 cap0 a1 len1 cap1 _ (by omega) (by omega)).mono ?_; rintro e w' ⟨⟨b, rfl⟩, rfl⟩; cases b) | (go_at_call 22; refine (new_any _).mono ?_; rintro e wn ⟨rfl, rfl⟩))
  · go_ret
    exact ⟨rfl, Below.refl _ _⟩
  go_loopw [6, 7] (fun dn ix wr => ∃ (i n : Nat) (a : Option Addr) (len cap : Nat) (mo : Option Nat) (ws : List Nat) (D : DataW Unit), i ≤ len0 ∧ ix = .int .i64 i ∧ dn = .int .i64 n ∧ n ≤ i ∧
      Hid (Rep wr w.heap.size w.heap.size a len cap mo ws D n) ∧ Hid (Abs ws D n) ∧ Hid (∀ k, held ws D k = among z0 i k) ∧ Below w.heap.size w wr)
    (fun _ ix _ => len0 - (intOf ix).toNat)
  case atStart => exact ⟨0, 0, none, 0, 0, none, [], .map [], Nat.zero_le _, rfl, rfl, Nat.le_refl _, hid (Rep.start w), hid Abs.start, hid (fun k => by rw [among_zero]; exact held_start k), (Below.refl _ _).alloc (Nat.le_refl _) _⟩
  case round =>
    obtain ⟨i, n, a, len, cap, mo, ws, D, hi, rfl, rfl, hni, HR, HA, HM, hbel⟩ := hrel
    by_cases hlt : i < len0
    · obtain ⟨b0, o0, rfl, hb0, hc0, hw0⟩ := R0.out.at (by omega)
      have HC0 := hid hc0
      have HW0 := hid hw0
      clear hc0 hw0
      obtain ⟨x, hx⟩ : ∃ x, x = z0.getD i 0 := ⟨_, rfl⟩
      have cx : wr.cell? ⟨b0, o0 + i, none⟩ = some (.int .i64 x) := by rw [hx]; exact (hbel.cell (p := ⟨b0, o0 + i, none⟩) hb0).trans (HC0.out i hlt)
      have HX := hid hx
      have hil : (i : Int) < (len0 : Int) := by omega
      clear hx
      go_wp2
      go_loopw [8, 9] (fun fr jx wr' => ∃ j : Nat, j ≤ i ∧ jx = .int .i64 j ∧ fr = .bool true ∧ Hid (among z0 j x = false) ∧ ∃ k, wr' = wr.drewN k) (fun _ jx _ => i - (intOf jx).toNat)
      case atStart => exact ⟨0, Nat.zero_le _, rfl, rfl, hid (among_zero z0 x), 0, rfl⟩
      case round =>
        obtain ⟨j, hj, rfl, rfl, HJ, dr, rfl⟩ := hrel
        by_cases hjlt : j < i
        · obtain ⟨y, hy⟩ : ∃ y, y = z0.getD j 0 := ⟨_, rfl⟩
          have cy : wr.cell? ⟨b0, o0 + j, none⟩ = some (.int .i64 y) := by rw [hy]; exact (hbel.cell (p := ⟨b0, o0 + j, none⟩) hb0).trans (HC0.out j (by omega))
          have HY := hid hy
          have hjl : (j : Int) < (len0 : Int) := by omega
          clear hy
          by_cases hxy : y = x
          · have hbq : (y == x) = true := by rw [beq_iff_eq]; exact hxy
            have HF : Hid (held ws D x = true) := by show held ws D x = true; rw [HM.out x, ← hxy, HY.out]; exact among_hit hjlt (by omega)
            clear hxy
            go_wp2
            go_quiet (fail)
            go_wp2_with fail
            refine (zzAdd_any w.heap.size w.heap.size n a len cap mo ws D x _ (HR.out.drewN _) HA.out (by exact hbel.size) (by rw [HX.out]; exact HW0.out i hlt) (by omega)).mono ?_
            rintro e w2 ⟨rfl, had⟩
            rw [HF.out]
            obtain ⟨a', len', cap', mo', ws', D', R2, A2, hh, hb2⟩ := had.old HF.out
            have hbel2 := (below_drewN hbel _).trans hb2
            have HR2 := hid R2
            have HA2 := hid A2
            have HM2 : Hid (∀ k, held ws' D' k = among z0 (i + 1) k) := fun k => by rw [hh k, HM.out k, among_succ _ _ _ (by omega), HX.out]
            have hfits := A2.fits R2.len
            clear R2 A2 hh hb2 had
            go_wp2_with fail
            refine (parts_any w.heap.size _ _ _ w2 HR2.out.str.c0 HR2.out.str.c1 HR2.out.str.c2).mono ?_
            rintro e w3 ⟨rfl, kk, rfl⟩
            rcases hfits with ⟨hn1, hn2⟩ | ⟨hn1, hn2⟩
            · have hdec : decide (65536 < 64 * ((n : Int) + 1)) = true := decide_eq_true (by omega)
              go_wp2
              go_roundw
              case rel => exact ⟨i + 1, n, a', len', cap', mo', ws', D', by omega, by go_num, by go_num, by omega, hid (HR2.out.drewN _), HA2, HM2, below_drewN hbel2 _⟩
              case measure => simp [intOf]; omega
            · have hdec : decide (65536 < 64 * ((n : Int) + 1)) = false := decide_eq_false (by omega)
              go_wp2
              go_roundw
              case rel => exact ⟨i + 1, n, a', len', cap', mo', ws', D', by omega, by go_num, by go_num, by omega, hid (HR2.out.drewN _), HA2, HM2, below_drewN hbel2 _⟩
              case measure => simp [intOf]; omega
          · have hbq : (y == x) = false := beq_eq_false_iff_ne.2 hxy
            have HJ2 : Hid (among z0 (j + 1) x = false) := by
              show among z0 (j + 1) x = false
              rw [among_succ _ _ _ (by omega), HJ.out, ← HY.out, Bool.false_or]
              exact beq_eq_false_iff_ne.2 (Ne.symm hxy)
            clear hxy
            go_wp2
            go_quiet (fail)
            go_wp2
            go_roundw
            case rel => exact ⟨j + 1, by omega, by go_num, rfl, HJ2, _, rfl⟩
            case measure => simp [intOf]; omega
        · have hji : j = i := by omega
          subst hji
          have HF : Hid (held ws D x = false) := by show held ws D x = false; rw [HM.out x]; exact HJ.out
          go_wp2_with fail
          refine (zzAdd_any w.heap.size w.heap.size n a len cap mo ws D x _ (HR.out.drewN _) HA.out (by exact hbel.size) (by rw [HX.out]; exact HW0.out j hlt) (by omega)).mono ?_
          rintro e w2 ⟨rfl, had⟩
          rw [HF.out]
          obtain ⟨a', len', cap', mo', ws', D', R2, A2, hh, hb2⟩ := had.new HF.out
          have hbel2 := (below_drewN hbel _).trans hb2
          have HR2 := hid R2
          have HA2 := hid A2
          have HM2 : Hid (∀ k, held ws' D' k = among z0 (j + 1) k) := fun k => by rw [hh k, HM.out k, among_succ _ _ _ (by omega), HX.out]
          have hfits := A2.fits R2.len
          clear R2 A2 hh hb2 had
          go_wp2_with fail
          refine (parts_any w.heap.size _ _ _ w2 HR2.out.str.c0 HR2.out.str.c1 HR2.out.str.c2).mono ?_
          rintro e w3 ⟨rfl, kk, rfl⟩
          rcases hfits with ⟨hn1, hn2⟩ | ⟨hn1, hn2⟩
          · have hdec : decide (65536 < 64 * ((n : Int) + 1 + 1)) = true := decide_eq_true (by omega)
            go_wp2
            go_roundw
            case rel => exact ⟨j + 1, n + 1, a', len', cap', mo', ws', D', by omega, by go_num, by go_num, by omega, hid (HR2.out.drewN _), HA2, HM2, below_drewN hbel2 _⟩
            case measure => simp [intOf]; omega
          · have hdec : decide (65536 < 64 * ((n : Int) + 1 + 1)) = false := decide_eq_false (by omega)
            go_wp2
            go_roundw
            case rel => exact ⟨j + 1, n + 1, a', len', cap', mo', ws', D', by omega, by go_num, by go_num, by omega, hid (HR2.out.drewN _), HA2, HM2, below_drewN hbel2 _⟩
            case measure => simp [intOf]; omega
    · obtain rfl : i = len0 := by omega
      clear hlt
      have hrl := HR.out.len
      have hcap : len ≤ 65536 := by have := HA.out.room; have := (room_ge n).2.2; omega
      go_wp2_with fail
      refine (parts_any w.heap.size _ _ _ wr HR.out.str.c0 HR.out.str.c1 HR.out.str.c2).mono ?_
      rintro e wp ⟨rfl, kk, rfl⟩
      have HRp := hid (HR.out.drewN kk)
      have hbp := below_drewN hbel kk
      have hlq := fun ty => len_eq (HR.out.drewN kk).map ty
      have hcnt : ((ones ws : Nat) : Int) + ((sz D : Nat) : Int) = (n : Int) := by have := HA.out.cnt; omega
      have hcntb : (((ones ws : Nat) : Int) + ((sz D : Nat) : Int) != (n : Int)) = false := by rw [bne_eq_false_iff_eq]; exact hcnt
      have HO := hid (ones_any w.heap.size a len cap ws _ HRp.out.row hcap HRp.out.lt)
      have h1 := ones_le ws
      have h2 : sz D ≤ 4096 := by have := HA.out.cnt; omega
      have h3 : ones ws ≤ 4096 := by have := HA.out.cnt; omega
      clear hcnt HR hbel h1
      go_wp2_with (go_at_call 25; refine HO.out.mono ?_; rintro e w' ⟨rfl, rfl⟩)
      have HRs : Hid (Rep (wr.drewN kk) w.heap.size w.heap.size a len cap mo ws D n) := HRp
      clear hcntb hlq HO HRp
      go_loopw [17] (fun ix wq => ∃ t : Nat, t ≤ i ∧ ix = .int .i64 t ∧ Hid (Rep wq w.heap.size w.heap.size a len cap mo ws D n) ∧ Below w.heap.size w wq) (fun ix _ => i - (intOf ix).toNat)
      case atStart => exact ⟨0, Nat.zero_le _, rfl, HRs, hbp⟩
      case round =>
        clear HRs hbp
        obtain ⟨t, ht, rfl, HRq, hbq⟩ := hrel
        by_cases htl : t < i
        · obtain ⟨b0, o0, rfl, hb0, hc0, hw0⟩ := R0.out.at (by omega)
          obtain ⟨x, hx⟩ : ∃ x, x = z0.getD t 0 := ⟨_, rfl⟩
          have cx : wr.cell? ⟨b0, o0 + t, none⟩ = some (.int .i64 x) := by rw [hx]; exact (hbq.cell (p := ⟨b0, o0 + t, none⟩) hb0).trans (hc0 t htl)
          have hil : (t : Int) < (i : Int) := by omega
          have HH : Hid (held ws D x = true) := by show held ws D x = true; rw [HM.out x, hx]; exact among_hit htl (by omega)
          have HC := hid (holds_any w.heap.size a len cap ws mo D x _ HRq.out.row hcap HRq.out.lt HRq.out.map (by rw [hx]; exact hw0 t htl))
          clear hc0 hw0 hx
          have HBQ := hid hbq
          clear hbq
          go_wp2_with (go_at_call 26; refine HC.out.mono ?_; rintro e w2 ⟨rfl, hb2⟩; rw [show (bit ws x || sp D x) = true from HH.out])
          go_roundw
          case rel => exact ⟨t + 1, by omega, by go_num, hid (HRq.out.below hb2), HBQ.out.trans (hb2.mono (by exact HBQ.out.size))⟩
          case measure => simp [intOf]; omega
        · obtain rfl : t = i := by omega
          clear htl
          go_wp2
          go_loopw [18] (fun ix wq => ∃ s : Nat, s ≤ len1 ∧ ix = .int .i64 s ∧ Hid (Rep wq w.heap.size w.heap.size a len cap mo ws D n) ∧ Below w.heap.size w wq) (fun ix _ => len1 - (intOf ix).toNat)
          case atStart => exact ⟨0, Nat.zero_le _, rfl, HRq, hbq⟩
          case round =>
            clear HRq hbq
            obtain ⟨s, hs, rfl, HRv, hbv⟩ := hrel
            have HBV := hid hbv
            clear hbv
            by_cases hsl : s < len1
            · obtain ⟨b1, o1, rfl, hb1, hc1, hw1⟩ := R1.out.at (by omega)
              obtain ⟨x, hx⟩ : ∃ x, x = z1.getD s 0 := ⟨_, rfl⟩
              have cx : wr.cell? ⟨b1, o1 + s, none⟩ = some (.int .i64 x) := by rw [hx]; exact (HBV.out.cell (p := ⟨b1, o1 + s, none⟩) hb1).trans (hc1 s hsl)
              have hsil : (s : Int) < (len1 : Int) := by omega
              have HX := hid hx
              have HW1 := hid hw1
              clear hc1 hw1 hx
              go_wp2
              go_loopw [19, 20] (fun nn jx wq' => ∃ j : Nat, j ≤ t ∧ jx = .int .i64 j ∧ nn = .bool false ∧ Hid (among z0 j x = false) ∧ ∃ k, wq' = wr.drewN k) (fun _ jx _ => t - (intOf jx).toNat)
              case atStart => exact ⟨0, Nat.zero_le _, rfl, rfl, hid (among_zero z0 x), 0, rfl⟩
              case round =>
                obtain ⟨j, hj, rfl, rfl, HJ, dr, rfl⟩ := hrel
                by_cases hjlt : j < t
                · obtain ⟨b0, o0, rfl, hb0, hc0, hw0⟩ := R0.out.at (by omega)
                  obtain ⟨y, hy⟩ : ∃ y, y = z0.getD j 0 := ⟨_, rfl⟩
                  have cy : wr.cell? ⟨b0, o0 + j, none⟩ = some (.int .i64 y) := by rw [hy]; exact (HBV.out.cell (p := ⟨b0, o0 + j, none⟩) hb0).trans (hc0 j hjlt)
                  have HY := hid hy
                  have hjl : (j : Int) < (t : Int) := by omega
                  clear hy hc0 hw0
                  by_cases hxy : y = x
                  · have hbq : (y == x) = true := by rw [beq_iff_eq]; exact hxy
                    have HH : Hid (held ws D x = true) := by show held ws D x = true; rw [HM.out x, ← hxy, HY.out]; exact among_hit hjlt (by omega)
                    clear hxy
                    go_wp2
                    go_quiet (fail)
                    have HC := hid (holds_any w.heap.size a len cap ws mo D x _ (HRv.out.drewN (dr + nq)).row hcap HRv.out.lt (HRv.out.drewN (dr + nq)).map (by rw [HX.out]; exact HW1.out s hsl))
                    go_wp2_with (go_at_call 26; refine HC.out.mono ?_; rintro e w2 ⟨rfl, hb2⟩; rw [show (bit ws x || sp D x) = true from HH.out])
                    go_roundw
                    case rel => exact ⟨s + 1, by omega, by go_num, hid ((HRv.out.drewN _).below hb2), (below_drewN HBV.out _).trans (hb2.mono (by exact HBV.out.size))⟩
                    case measure => simp [intOf]; omega
                  · have hbq : (y == x) = false := beq_eq_false_iff_ne.2 hxy
                    have HJ2 : Hid (among z0 (j + 1) x = false) := by
                      show among z0 (j + 1) x = false
                      rw [among_succ _ _ _ (by omega), HJ.out, ← HY.out, Bool.false_or]
                      exact beq_eq_false_iff_ne.2 (Ne.symm hxy)
                    clear hxy
                    go_wp2
                    go_quiet (fail)
                    go_wp2
                    go_roundw
                    case rel => exact ⟨j + 1, by omega, by go_num, rfl, HJ2, _, rfl⟩
                    case measure => simp [intOf]; omega
                · have hjt : j = t := by omega
                  subst hjt
                  have HH : Hid (held ws D x = false) := by show held ws D x = false; rw [HM.out x]; exact HJ.out
                  have HC := hid (holds_any w.heap.size a len cap ws mo D x _ (HRv.out.drewN dr).row hcap HRv.out.lt (HRv.out.drewN dr).map (by rw [HX.out]; exact HW1.out s hsl))
                  go_wp2_with (go_at_call 26; refine HC.out.mono ?_; rintro e w2 ⟨rfl, hb2⟩; rw [show (bit ws x || sp D x) = false from HH.out])
                  go_roundw
                  case rel => exact ⟨s + 1, by omega, by go_num, hid ((HRv.out.drewN _).below hb2), (below_drewN HBV.out _).trans (hb2.mono (by exact HBV.out.size))⟩
                  case measure => simp [intOf]; omega
            · go_wp2
              go_ret
              exact ⟨rfl, HBV.out⟩

set_option maxHeartbeats 1000000 in
/-- A slice is too long: it answers true at once. -/
theorem law_sizes (a0 : Option Addr) (len0 cap0 : Nat) (a1 : Option Addr) (len1 cap1 : Nat) (w : World) (hm0 : len0 ≤ 9223372036854775807) (hm1 : len1 ≤ 9223372036854775807) (h : ¬ (len0 ≤ 2048 ∧ len1 ≤ 4096)) :
    Calls Try.prog 7 #[.slice a0 len0 cap0, .slice a1 len1 cap1] w fun e w' => e = .returned (.bool true) ∧ Below w.heap.size w w' := by
  by_cases h0 : len0 ≤ 2048
  · have h1 : ¬ len1 ≤ 4096 := fun h1 => h ⟨h0, h1⟩
    clear h
    go_enter Try.func7, Try.ntmps7
    go_wp2_with (go_at_call 21; refine (bytes_any a0 len0 cap0 a1 len1 cap1 _ (by omega) (by omega)).mono ?_; rintro e w' ⟨⟨b, rfl⟩, rfl⟩; cases b)
    all_goals (go_ret; exact ⟨rfl, Below.refl _ _⟩)
  · clear h
    go_enter Try.func7, Try.ntmps7
    go_wp2_with (go_at_call 21; refine (bytes_any a0 len0 cap0 a1 len1 cap1 _ (by omega) (by omega)).mono ?_; rintro e w' ⟨⟨b, rfl⟩, rfl⟩; cases b)
    all_goals (go_ret; exact ⟨rfl, Below.refl _ _⟩)

/-- THE LAW's WALK, whatever the input. -/
theorem law_all (a0 : Option Addr) (len0 cap0 : Nat) (z0 : List Int) (a1 : Option Addr) (len1 cap1 : Nat) (z1 : List Int) (w : World) (r0 : InRow .i64 w a0 len0 cap0 z0) (r1 : InRow .i64 w a1 len1 cap1 z1) :
    Calls Try.prog 7 #[.slice a0 len0 cap0, .slice a1 len1 cap1] w fun e w' => e = .returned (.bool true) ∧ Below w.heap.size w w' := by
  have b0 := r0.len_le
  have b1 := r1.len_le
  by_cases h : len0 ≤ 2048 ∧ len1 ≤ 4096
  · exact law_any a0 len0 cap0 z0 a1 len1 cap1 z1 w r0 r1 h.1 h.2
  · exact law_sizes a0 len0 cap0 a1 len1 cap1 w (by omega) (by omega) h

end Go.Proofs.Qxb6618180a
