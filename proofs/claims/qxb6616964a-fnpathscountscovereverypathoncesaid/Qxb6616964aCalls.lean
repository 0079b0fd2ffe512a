/-
  THE CONTRACTS OF THE FUNCTIONS WITHOUT A LOOP.
-/
import Derived.Test.Qxb6616964aRows
import Derived.Test.Qxb6616964aPlain
import Derived.WalkKit
import Derived.Deep.QuietTactic
import Derived.BigQuiet
import Derived.Below
namespace Go.Proofs.Qxb6616964a
open Go.RowKit
set_option linter.unusedVariables false

set_option maxHeartbeats 400000 in
theorem bytes_any (n : Int) (a1 : Option Addr) (len1 cap1 : Nat) (a2 : Option Addr) (len2 cap2 : Nat) (a3 : Option Addr) (len3 cap3 : Nat) (l : Int) (w : World)
    (h1 : len1 ≤ 9223372036854775807) (h2 : len2 ≤ 9223372036854775807) (h3 : len3 ≤ 9223372036854775807) :
    Calls Try.prog 11 #[.int .i64 n, .slice a1 len1 cap1, .slice a2 len2 cap2, .slice a3 len3 cap3, .int .i64 l] w fun e w' => (∃ b, e = .returned (.bool b)) ∧ w = w' := by
  go_enter Try.func11, Try.ntmps11
  go_wp2
  all_goals (go_ret; exact ⟨⟨_, rfl⟩, rfl⟩)

set_option maxHeartbeats 400000 in
theorem pair_any (n u x : Int) (h0 : 0 ≤ u) (h1 : u < x) (h2 : x < n) (h3 : n ≤ 65536) (w : World) :
    Calls Try.prog 12 #[.int .i64 n, .int .i64 u, .int .i64 x] w fun e w' => e = .returned (.int .i64 (tri n u + x - u - 1)) ∧ w' = w := by
  obtain ⟨m0, m1⟩ := mul_bd n u h0 (by omega) (by omega) h3
  go_enter Try.func12, Try.ntmps12
  go_wp2
  go_ret
  exact ⟨rfl, rfl⟩


theorem pair_q (n u x : Int) (q : Nat) (hq : Hid (tri n u + x - u - 1 = q)) (h0 : 0 ≤ u) (h1 : u < x) (h2 : x < n) (h3 : n ≤ 65536) (w : World) :
    Calls Try.prog 12 #[.int .i64 n, .int .i64 u, .int .i64 x] w fun e w' => e = .returned (.int .i64 q) ∧ w' = w := by
  rw [← hq.out]
  exact pair_any n u x h0 h1 h2 h3 w

set_option maxHeartbeats 400000 in
/-- Count(x, u), u below x. -/
theorem count_any (b : Nat) (n u x : Int) (b1 off1 len1 cap1 q : Nat) (y z : Int) (hq : Hid (tri n u + x - u - 1 = q)) (h0 : 0 ≤ u) (h1 : u < x) (h2 : x < n) (h3 : n ≤ 65536) (w : World)
    (hql : q + 1 < len1) (hl : len1 ≤ 9223372036854775807) (c0 : w.cell? ⟨b, 0, none⟩ = some (.int .i64 n)) (c1 : w.cell? ⟨b, 1, none⟩ = some (.slice (some ⟨b1, off1, none⟩) len1 cap1))
    (cy : w.cell? ⟨b1, off1 + q, none⟩ = some (.int .i64 y)) (cz : w.cell? ⟨b1, off1 + (q + 1), none⟩ = some (.int .i64 z)) (hy : 0 ≤ y) (hyz : y ≤ z) (hz : z ≤ 9223372036854775807) :
    Calls Try.prog 10 #[.pointer (some ⟨b, 0, none⟩), .int .i64 x, .int .i64 u] w fun e w' => e = .returned (.int .i64 (z - y)) ∧ ∃ k, w' = w.drewN k := by
  go_enter Try.func10, Try.ntmps10
  go_wp2_with (go_at_call 12; refine (pair_q n u x q hq h0 h1 h2 h3 _).mono ?_; rintro e w' ⟨rfl, rfl⟩)
  go_quiet (fail)
  go_wp2
  go_ret
  exact ⟨rfl, _, rfl⟩


set_option maxHeartbeats 400000 in
theorem new_any (n : Int) (a1 : Option Addr) (len1 cap1 : Nat) (a2 : Option Addr) (len2 cap2 : Nat) (a3 : Option Addr) (len3 cap3 : Nat) (l : Int) (w : World) :
    Calls Try.prog 9 #[.int .i64 n, .slice a1 len1 cap1, .slice a2 len2 cap2, .slice a3 len3 cap3, .int .i64 l] w fun e w' => e = .returned (.pointer (some ⟨w.heap.size, 0, none⟩)) ∧ w' = w.alloc (.cells #[.int .i64 n, .slice a1 len1 cap1, .slice a2 len2 cap2, .slice a3 len3 cap3, .int .i64 l] 33) := by
  go_enter Try.func9, Try.ntmps9
  go_wp2
  go_ret
  exact ⟨rfl, rfl⟩

end Go.Proofs.Qxb6616964a
