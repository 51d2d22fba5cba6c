import Derived.Test.Qxb6601047aMsMain
import Derived.Test.Qxb6601047aMsBudget
namespace Go.Proofs.Qxb6601047a
open Go.RowKit
set_option linter.unusedSimpArgs false
set_option linter.unusedVariables false

set_option maxHeartbeats 1000000 in
theorem zz28 (a0 : Option Addr) (n0 c0 : Nat) (a1 : Option Addr) (n1 c1 : Nat) (L : Int) (w : World) (h0 : n0 ≤ maxLen) (h1 : n1 ≤ maxLen) :
    Calls Try.prog 28 #[.slice a0 n0 c0, .slice a1 n1 c1, .int .i64 L] w fun e w' => ∃ b, e = .returned (.bool b) ∧ w = w' := by
  unfold maxLen at h0 h1
  go_enter Try.func28, Try.ntmps28
  go_wp2
  all_goals
    go_ret
    exact ⟨_, rfl, rfl⟩

theorem row_one (w : World) (z : Int) : Row (w.alloc (.cells #[.int .i64 z] 3)) w.heap.size 3 1 (oneV z) := by
  show (w.heap.push _)[w.heap.size]? = _
  simp [oneV]

set_option maxRecDepth 100000 in
set_option maxHeartbeats 1000000 in
theorem budget_core (b0 o0 n c0 b1 o1 m c1 : Nat) (A B : Int → Int) (L : Int) (w : World) (hb0 : b0 < w.heap.size) (hb1 : b1 < w.heap.size) (hn : n ≤ 512) (hm : m ≤ 512) (n1 : 1 ≤ n) (m1 : 1 ≤ m)
    (r0 : Reads w b0 o0 n (lineV A)) (r1 : Reads w b1 o1 m (lineV B)) (l1 : -1073741824 ≤ L) (l2 : L ≤ 1073741824) :
    Calls Try.prog 9 #[.slice (some ⟨b0, o0, none⟩) n c0, .slice (some ⟨b1, o1, none⟩) m c1, .int .i64 L] w fun e w' => e = .returned (.bool true) ∧ Below w.heap.size w w' := by
  have hp : (⟨A, B, n, m⟩ : Ms.Pm).Sized := ⟨by show (1 : Int) ≤ n; omega, by show (n : Int) ≤ 512; omega, by show (1 : Int) ≤ m; omega, by show (m : Int) ≤ 512; omega⟩
  have hsafe := Ms.all_safe hp
  go_enter Try.func9, Try.ntmps9
  go_wp2_with fail
  refine (zz28 _ _ _ _ _ _ _ _ (by unfold maxLen; omega) (by unfold maxLen; omega)).mono ?_
  rintro e w' ⟨b, rfl, rfl⟩
  cases b with
  | false =>
    go_wp2_with fail
    go_ret
    exact ⟨rfl, Below.refl _ _⟩
  | true =>
    have q1 : ((n : Int) == 0) = false := beq_eq_false_iff_ne.2 (by omega)
    have q2 : ((m : Int) == 0) = false := beq_eq_false_iff_ne.2 (by omega)
    go_wp2_with fail
    refine (cloneInts_any b0 o0 n c0 (fun i => A i) w hb0 (by omega) r0).mono ?_
    rintro e w1 ⟨rfl, ra, bel1⟩
    go_wp2_with fail
    have hs1 : w.heap.size < w1.heap.size := ra.lt
    refine (cloneInts_any b1 o1 m c1 (fun i => B i) w1 (by omega) (by omega) (r1.below bel1 hb1)).mono ?_
    rintro e w2 ⟨rfl, rb, bel2⟩
    have hs2 : w1.heap.size < w2.heap.size := rb.lt
    have ra2 := ra.below bel2 hs1
    go_wp2_with fail
    refine (zzms_any w.heap.size w1.heap.size w2.heap.size n m A B 1073741824 (w2.alloc (.cells #[.int .i64 1073741824] 3)) hn hm n1 m1 (by omega) hs2 (by simp) (ra2.alloc _) (rb.alloc _) (row_one _ _) (by omega) (by omega) hsafe).mono ?_
    rintro e w3 ⟨x0, y0, u0, v0, ok0, big, rfl, ho0, rl0, bel3⟩
    have hs3 : w2.heap.size < w3.heap.size := rl0.lt
    have ra3 := (ra2.alloc (.cells #[.int .i64 1073741824] 3)).below bel3 (by omega)
    have rb3 := (rb.alloc (.cells #[.int .i64 1073741824] 3)).below bel3 hs2
    have cbig : w3.cell? ⟨w2.heap.size, 0, none⟩ = some (.int .i64 big) := rl0.cell 0 (by omega)
    obtain ⟨rfl, g1, g2⟩ : ok0 = true ∧ 0 ≤ big ∧ big < 1073741824 := by
      obtain ⟨t, _, _, hb, hbig, hc1, hc2⟩ := Ms.out_big hp ho0
      exact ⟨hb, by omega, by omega⟩
    unfold five
    go_wp2_with fail
    refine (zzms_any w.heap.size w1.heap.size w3.heap.size n m A B L (w3.alloc (.cells #[.int .i64 L] 3)) hn hm n1 m1 (by omega) (by omega) (by simp) (ra3.alloc _) (rb3.alloc _) (row_one _ _) l1 l2 hsafe).mono ?_
    rintro e w4 ⟨x, y, u, v, ok, left, rfl, ho, rl, bel4⟩
    have cleft : w4.cell? ⟨w3.heap.size, 0, none⟩ = some (.int .i64 left) := rl.cell 0 (by omega)
    have bel : Below w.heap.size w w4 := by
      refine Below.trans bel1 ?_
      refine Below.trans (bel2.mono (by omega)) ?_
      refine Below.trans ((Below.refl w.heap.size w2).alloc (by omega) (.cells #[.int .i64 1073741824] 3)) ?_
      refine Below.trans (bel3.mono (by omega)) ?_
      refine Below.trans ((Below.refl w.heap.size w3).alloc (by omega) (.cells #[.int .i64 L] 3)) ?_
      exact bel4.mono (by omega)
    obtain ⟨_, _, _, k1, k2⟩ := Ms.budget hp ho0 ho
    have BEL : Hid (Below w.heap.size w w4) := bel
    clear bel ho ho0 rl rl0 ra3 rb3 ra2 rb ra bel1 bel2 bel3 bel4 hsafe r0 r1 hp
    unfold five
    by_cases hle : 1073741824 - big ≤ L
    · obtain ⟨rfl, rfl, rfl, rfl, rfl, rfl⟩ := k1 hle
      clear k1 k2
      go_wp2_with fail
      go_ret
      exact ⟨rfl, BEL.out⟩
    · obtain ⟨rfl, rfl, rfl, rfl, rfl, hneg⟩ := k2 hle
      clear k1 k2
      go_wp2_with fail
      go_ret
      exact ⟨rfl, BEL.out⟩

/-- the ways that answer at once -/
theorem budget_short (a0 : Option Addr) (n0 c0 : Nat) (a1 : Option Addr) (n1 c1 : Nat) (L : Int) (w : World) (h0 : n0 ≤ maxLen) (h1 : n1 ≤ maxLen)
    (h : 512 < n0 ∨ 512 < n1 ∨ n0 = 0 ∨ n1 = 0 ∨ L < -1073741824 ∨ 1073741824 < L) :
    Calls Try.prog 9 #[.slice a0 n0 c0, .slice a1 n1 c1, .int .i64 L] w fun e w' => e = .returned (.bool true) ∧ Below w.heap.size w w' := by
  go_enter Try.func9, Try.ntmps9
  go_wp2_with fail
  refine (zz28 _ _ _ _ _ _ _ _ h0 h1).mono ?_
  rintro e w' ⟨b, rfl, rfl⟩
  unfold maxLen at h0 h1
  cases b with
  | false =>
    go_wp2_with fail
    go_ret
    exact ⟨rfl, Below.refl _ _⟩
  | true =>
    by_cases q1 : 512 < n0
    · go_wp2_with fail
      go_ret
      exact ⟨rfl, Below.refl _ _⟩
    · by_cases q2 : 512 < n1
      · go_wp2_with fail
        go_ret
        exact ⟨rfl, Below.refl _ _⟩
      · by_cases q3 : n0 = 0
        · subst q3
          go_wp2_with fail
          go_ret
          exact ⟨rfl, Below.refl _ _⟩
        · have q3' : ((n0 : Int) == 0) = false := beq_eq_false_iff_ne.2 (by omega)
          by_cases q4 : n1 = 0
          · subst q4
            go_wp2_with fail
            go_ret
            exact ⟨rfl, Below.refl _ _⟩
          · have q4' : ((n1 : Int) == 0) = false := beq_eq_false_iff_ne.2 (by omega)
            by_cases q5 : L < -1073741824
            · clear h
              go_wp2_with fail
              go_ret
              exact ⟨rfl, Below.refl _ _⟩
            · have q6 : 1073741824 < L := by omega
              clear h
              go_wp2_with fail
              go_ret
              exact ⟨rfl, Below.refl _ _⟩

end Go.Proofs.Qxb6601047a
