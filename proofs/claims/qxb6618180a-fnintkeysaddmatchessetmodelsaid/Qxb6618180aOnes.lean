/-
  THE CONTRACT OF zzOnes.
-/
import Derived.Test.Qxb6618180aRep
namespace Go.Proofs.Qxb6618180a
open Go.RowKit Go.WideShapes
set_option linter.unusedVariables false

theorem take_ones (ws : List Nat) (k : Nat) (h : k < ws.length) : ones (ws.take (k + 1)) = ones (ws.take k) + pop 64 (ws.getD k 0) := by
  rw [List.take_succ_eq_append_getElem h, ones_snoc, List.getD_eq_getElem?_getD, List.getElem?_eq_getElem h]; rfl

set_option maxHeartbeats 400000 in
theorem ones_any (B : Nat) (a : Option Addr) (len cap : Nat) (ws : List Nat) (w : World) (hown : w.ownsRow B 59 1 (.slice a len cap) len (cellsOf ws)) (hl : len ≤ 65536) (hws : ∀ v ∈ ws, v < 18446744073709551616) :
    Calls Try.prog 25 #[.slice a len cap] w fun e w' => e = .returned (.int .i64 (ones ws : Nat)) ∧ w' = w := by
  have hlen : ws.length = len := by have := hown.1; rw [cellsOf_length] at this; omega
  have hb := ones_le ws
  go_enter Try.func25, Try.ntmps25
  go_wp2
  go_loop [3, 4] (fun c i => ∃ k : Nat, k ≤ len ∧ i = .int .i64 k ∧ c = .int .i64 (ones (ws.take k) : Nat)) (fun _ i => len - (intOf i).toNat)
  case atStart => exact ⟨0, Nat.zero_le _, rfl, rfl⟩
  case round =>
    obtain ⟨k, hk, rfl, rfl⟩ := hrel
    have hbk := ones_le (ws.take k)
    have htl : (ws.take k).length ≤ k := List.length_take_le _ _
    obtain ⟨c, hc⟩ : ∃ c, c = ones (ws.take k) := ⟨_, rfl⟩
    rw [← hc] at hbk
    have HC := hid hc
    rw [← hc]
    clear hc
    by_cases hlt : k < len
    · obtain ⟨g, cap', e⟩ : ∃ g cap', Value.slice a len cap = .slice (some ⟨g, 0, none⟩) len cap' := by
        rcases hown.2 with ⟨_, h⟩ | ⟨g, cap', _, h, _⟩
        · omega
        · exact ⟨g, cap', h⟩
      simp only [Value.slice.injEq, true_and] at e
      obtain ⟨rfl, rfl⟩ := e
      obtain ⟨x, hx⟩ : ∃ x, x = ws.getD k 0 := ⟨_, rfl⟩
      have hxl : x < 18446744073709551616 := by rw [hx]; exact getD_lt hws k
      have hcell : w.cell? ⟨g, k, none⟩ = some (.int .u64 (x : Nat)) := by rw [hown.cellAt k (by omega), cellsOf_get ws k (by omega), hx]
      have hpx := pop_le 64 x
      have HX := hid hx
      have HXL := hid hxl
      have HWS := hid hws
      clear hx hxl hws
      go_wp2
      go_loop [3, 5] (fun cc xx => ∃ (d y : Nat), Hid (y < 18446744073709551616) ∧ d + pop 64 y = c + pop 64 x ∧ cc = .int .i64 d ∧ xx = .int .u64 y) (fun _ xx => pop 64 (intOf xx).toNat)
      case atStart => exact ⟨c, x, HXL, rfl, rfl, rfl⟩
      case round =>
        obtain ⟨d, y, hy, hd, rfl, rfl⟩ := hrel
        have HD := hid hd
        have hd2 : d ≤ c + 64 := by omega
        clear hd
        by_cases hy0 : y = 0
        · subst hy0
          go_wp2
          go_round
          case rel =>
            refine ⟨k + 1, by omega, by go_num, ?_⟩
            rw [take_ones ws k (by omega), ← HX.out, ← HC.out]
            have := HD.out
            rw [pop_zero] at this
            exact congrArg (fun n : Nat => Value.int .i64 (n : Int)) (by omega)
          case measure => simp [intOf]; omega
        · have hyp : 0 < (y : Int) := by omega
          have hyi : (y : Int) ≤ 18446744073709551615 := by have := hy.out; omega
          have ha : y &&& (y - 1) < 18446744073709551616 := Nat.lt_of_le_of_lt Nat.and_le_left hy.out
          have hyb : ((y : Int) != 0) = true := by rw [bne_iff_ne]; omega
          obtain ⟨z, hz⟩ : ∃ z : Nat, (y : Int) - 1 = (z : Int) := ⟨y - 1, by omega⟩
          have hzi : (z : Int) ≤ 18446744073709551615 := by omega
          have hk' := pop_strike 64 y hy.out hy0
          have HE : Hid (bits .and .u64 (y : Int) (z : Int) = ((y &&& (y - 1) : Nat) : Int)) := by
            have hzn : z = y - 1 := by omega
            rw [hzn]
            exact u64_and_nat y (y - 1) hy.out (by have := hy.out; omega)
          have HK := hid hk'
          have HA := hid ha
          clear hk' ha
          go_wp2
          go_round
          case rel =>
            refine ⟨d + 1, y &&& (y - 1), HA, ?_, by go_num, congrArg (Value.int .u64) HE.out⟩
            have := HK.out; have := HD.out; omega
          case measure =>
            simp only [intOf]
            rw [HE.out, Int.toNat_natCast, Int.toNat_natCast]
            have := HK.out
            omega
    · have hke : k = len := by omega
      subst hke
      have hcw : c = ones ws := by rw [HC.out, List.take_of_length_le (by omega)]
      subst hcw
      go_wp2
      go_ret
      exact ⟨rfl, rfl⟩

end Go.Proofs.Qxb6618180a
