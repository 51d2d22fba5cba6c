import Derived.Test.Qxb6601047aRows
import Derived.Test.Qxb6601047aRowLib
import Derived.Test.Qxb6601047aMsPlain
namespace Go.Proofs.Qxb6601047a
open Go.RowKit
set_option linter.unusedSimpArgs false
set_option linter.unusedVariables false

set_option maxHeartbeats 400000 in
theorem diag_any (mid d n m : Int) (bm bn : Nat) (w : World) (h0 : -1048576 ≤ mid) (h1 : mid ≤ 1048576) (h2 : 0 ≤ d) (h3 : d ≤ 4194304) (h4 : 0 ≤ n) (h5 : n ≤ 1048576) (h6 : 0 ≤ m) (h7 : m ≤ 1048576)
    (cm : w.cell? ⟨bm, 0, none⟩ = some (.int .i64 m)) (cn : w.cell? ⟨bn, 0, none⟩ = some (.int .i64 n)) :
    Calls Try.prog 39 #[.int .i64 mid, .int .i64 d, .pointer (some ⟨bm, 0, none⟩), .pointer (some ⟨bn, 0, none⟩)] w fun e w' =>
      e = .returned (.tuple #[.int .i64 (dFirst m mid d), .int .i64 (dLast n mid d)]) ∧ w' = w := by
  unfold dFirst dLast
  by_cases c1 : mid - d < -m
  · rw [if_pos c1]
    by_cases c2 : n < mid + d
    · rw [if_pos c2]
      go_enter Try.func39, Try.ntmps39
      go_wp2
      go_ret2
      exact ⟨rfl, rfl⟩
    · rw [if_neg c2]
      go_enter Try.func39, Try.ntmps39
      go_wp2
      go_ret2
      exact ⟨rfl, rfl⟩
  · rw [if_neg c1]
    by_cases c2 : n < mid + d
    · rw [if_pos c2]
      go_enter Try.func39, Try.ntmps39
      go_wp2
      go_ret2
      exact ⟨rfl, rfl⟩
    · rw [if_neg c2]
      go_enter Try.func39, Try.ntmps39
      go_wp2
      go_ret2
      exact ⟨rfl, rfl⟩
end Go.Proofs.Qxb6601047a
