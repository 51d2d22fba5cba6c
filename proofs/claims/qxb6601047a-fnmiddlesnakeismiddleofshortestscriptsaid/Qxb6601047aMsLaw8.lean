import Derived.Test.Qxb6601047aMsTail8
namespace Go.Proofs.Qxb6601047a
open Go.RowKit
set_option linter.unusedSimpArgs false
set_option linter.unusedVariables false

set_option maxHeartbeats 1000000 in
theorem zz24 (a0 : Option Addr) (n0 c0 : Nat) (a1 : Option Addr) (n1 c1 : Nat) (w : World) (h0 : n0 ≤ maxLen) (h1 : n1 ≤ maxLen) :
    Calls Try.prog 24 #[.slice a0 n0 c0, .slice a1 n1 c1] w fun e w' => ∃ b, e = .returned (.bool b) ∧ w = w' := by
  unfold maxLen at h0 h1
  go_enter Try.func24, Try.ntmps24
  go_wp2
  all_goals
    go_ret
    exact ⟨_, rfl, rfl⟩

/-- regions 24, 25 -/
theorem tail8 {ba bb n m x y u v : Nat} {A B : Int → Int} {w0 w : World} {a : Act} {dT : Int}
    (hS : S8 ba bb n m x y u v dT a) (h15 : slot a 15 = .int .i64 ((x : Int) + y - 2 * Lcs.S A B 0 0 x y)) (ra : Row w ba 3 n (lineV A)) (rb : Row w bb 3 m (lineV B)) (hn : n ≤ 512) (hm : m ≤ 512) (hu : u ≤ n) (hv : v ≤ m)
    (hT : dT = (⟨A, B, n, m⟩ : Ms.Pm).T) (d0 : 0 ≤ dT) (d1 : dT ≤ 100000) (hsum : (⟨A, B, n, m⟩ : Ms.Pm).D x y + (⟨A, B, n, m⟩ : Ms.Pm).E u v = (⟨A, B, n, m⟩ : Ms.Pm).T) (hhalf : (⟨A, B, n, m⟩ : Ms.Pm).D x y = ((⟨A, B, n, m⟩ : Ms.Pm).T + 1) / 2)
    (bel : Below w0.heap.size w0 w) :
    Wp8 [1, 1, 1, 1, 1, 1, 1, 1, 1, 1, 1, 1, 1, 1, 1] (bodyPost Try.prog Try.f8 fun e w' => e = .returned (.bool true) ∧ Below w0.heap.size w0 w') a w := by
  have s15 : slot a 15 = .int .i64 ((⟨A, B, n, m⟩ : Ms.Pm).D x y) := h15
  refine wp_mid (fun a' w' => S8 ba bb n m x y u v dT a' ∧ slot a' 15 = .int .i64 ((⟨A, B, n, m⟩ : Ms.Pm).D x y) ∧ slot a' 16 = .int .i64 ((⟨A, B, n, m⟩ : Ms.Pm).E u v) ∧ Below w0.heap.size w0 w')
    (t24 hS s15 ra rb hn hm hu hv (fun a' w' h h15 h16 hb => ⟨h, h15, ?_, bel.trans (hb.mono bel.size)⟩)) ?_
  · rw [h16, Ms.E_suffix (p := ⟨A, B, n, m⟩) (x := u) (y := v) (by show (u : Int) ≤ n; omega) (by show (v : Int) ≤ m; omega)]
    show Value.int .i64 (((n - u : Nat) : Int) + ((m - v : Nat) : Int) - 2 * Lcs.S A B u v (n - u) (m - v)) = Value.int .i64 (((n : Int) - u) + ((m : Int) - v) - 2 * Lcs.S A B u v ((n : Int) - u).toNat ((m : Int) - v).toNat)
    rw [show ((n : Int) - u).toNat = n - u from by omega, show ((m : Int) - v).toNat = m - v from by omega, show ((n - u : Nat) : Int) = (n : Int) - u from by omega, show ((m - v : Nat) : Int) = (m : Int) - v from by omega]
  rintro a w ⟨hS, s15, s16, bel⟩
  exact t25 hS s15 s16 (by rw [hsum, hT]) (by rw [hhalf, hT]) d0 d1 ⟨rfl, bel⟩

set_option maxRecDepth 100000 in
set_option maxHeartbeats 2000000 in
theorem middle_core (b0 o0 n c0 b1 o1 m c1 : Nat) (A B : Int → Int) (w : World) (hb0 : b0 < w.heap.size) (hb1 : b1 < w.heap.size) (hn : n ≤ 512) (hm : m ≤ 512) (n1 : 1 ≤ n) (m1 : 1 ≤ m)
    (r0 : Reads w b0 o0 n (lineV A)) (r1 : Reads w b1 o1 m (lineV B)) :
    Calls Try.prog 8 #[.slice (some ⟨b0, o0, none⟩) n c0, .slice (some ⟨b1, o1, none⟩) m c1] w fun e w' => e = .returned (.bool true) ∧ Below w.heap.size w w' := by
  have hp : (⟨A, B, n, m⟩ : Ms.Pm).Sized := ⟨by show (1 : Int) ≤ n; omega, by show (n : Int) ≤ 512; omega, by show (1 : Int) ≤ m; omega, by show (m : Int) ≤ 512; omega⟩
  have hsafe := Ms.all_safe hp
  go_enter Try.func8, Try.ntmps8
  go_wp2_with fail
  refine (zz24 _ _ _ _ _ _ _ (by unfold maxLen; omega) (by unfold maxLen; omega)).mono ?_
  rintro e w' ⟨b, rfl, rfl⟩
  cases b with
  | false =>
    go_wp2_with fail
    go_ret
    exact ⟨rfl, Below.refl _ _⟩
  | true =>
    have q1 : ((n : Int) == 0) = false := beq_eq_false_iff_ne.2 (by omega)
    have q2 : ((m : Int) == 0) = false := beq_eq_false_iff_ne.2 (by omega)
    go_wp2_with fail
    refine (cloneInts_any b0 o0 n c0 (fun i => A i) w hb0 (by omega) r0).mono ?_
    rintro e w1 ⟨rfl, ra, bel1⟩
    go_wp2_with fail
    have hs1 : w.heap.size < w1.heap.size := ra.lt
    refine (cloneInts_any b1 o1 m c1 (fun i => B i) w1 (by omega) (by omega) (r1.below bel1 hb1)).mono ?_
    rintro e w2 ⟨rfl, rb, bel2⟩
    have hs2 : w1.heap.size < w2.heap.size := rb.lt
    have ra2 := ra.below bel2 hs1
    go_wp2_with fail
    refine (zzms_any w.heap.size w1.heap.size w2.heap.size n m A B 1073741824 (w2.alloc (.cells #[.int .i64 1073741824] 3)) hn hm n1 m1 (by omega) hs2 (by simp) (ra2.alloc _) (rb.alloc _) (row_one _ _) (by omega) (by omega) hsafe).mono ?_
    rintro e w3 ⟨x, y, u, v, ok, big, rfl, ho, rl0, bel3⟩
    have hs3 : w2.heap.size < w3.heap.size := rl0.lt
    have ra3 := (ra2.alloc (.cells #[.int .i64 1073741824] 3)).below bel3 (by omega)
    have rb3 := (rb.alloc (.cells #[.int .i64 1073741824] 3)).below bel3 hs2
    have bel : Below w.heap.size w w3 := by
      refine Below.trans bel1 ?_
      refine Below.trans (bel2.mono (by omega)) ?_
      refine Below.trans ((Below.refl w.heap.size w2).alloc (by omega) (.cells #[.int .i64 1073741824] 3)) ?_
      exact bel3.mono (by omega)
    obtain ⟨rfl, hmid⟩ : ok = true ∧ Hid (0 ≤ x ∧ x ≤ u ∧ u ≤ (n : Int) ∧ 0 ≤ y ∧ y ≤ v ∧ v ≤ (m : Int) ∧ u - x = v - y ∧ (∀ i, 0 ≤ i → i < u - x → A (x + i) = B (y + i)) ∧ (⟨A, B, n, m⟩ : Ms.Pm).D x y + (⟨A, B, n, m⟩ : Ms.Pm).E u v = (⟨A, B, n, m⟩ : Ms.Pm).T ∧ (⟨A, B, n, m⟩ : Ms.Pm).D x y = ((⟨A, B, n, m⟩ : Ms.Pm).T + 1) / 2) := by
      obtain ⟨t, hc, hf, hb, _⟩ := Ms.out_big hp ho
      exact ⟨hb, Ms.middle hp hc hf⟩
    obtain ⟨x0, xu, un, y0, yv, vm, huv, hrun, hsum, hhalf⟩ := hmid.out
    obtain ⟨x, rfl⟩ := Int.eq_ofNat_of_zero_le x0
    obtain ⟨y, rfl⟩ := Int.eq_ofNat_of_zero_le y0
    obtain ⟨u, rfl⟩ := Int.eq_ofNat_of_zero_le (Int.le_trans x0 xu)
    obtain ⟨v, rfl⟩ := Int.eq_ofNat_of_zero_le (Int.le_trans y0 yv)
    have q3 : ((u : Int) - x != (v : Int) - y) = false := by simpa using huv
    have HUV : Hid ((u : Int) - x = v - y) := huv
    have HS1 : Hid _ := hsum
    have HS2 : Hid _ := hhalf
    have HR : Hid _ := hrun
    clear huv hsum hhalf hmid hrun ho rl0 ra2 rb ra bel1 bel2 bel3 hsafe r0 r1 hp
    unfold five
    go_wp2_with fail
    go_loopw [13] (fun si wr => ∃ i : Nat, i ≤ u - x ∧ si = .int .i64 i ∧ Row wr w.heap.size 3 n (lineV A) ∧ Row wr w1.heap.size 3 m (lineV B) ∧ Below w.heap.size w wr)
      (fun si _ => u - x - (intOf si).toNat)
    case atStart => exact ⟨0, Nat.zero_le _, rfl, ra3, rb3, bel⟩
    case round =>
      obtain ⟨i, hi, rfl, ra4, rb4, bel4⟩ := hrel
      clear ra3 rb3 bel
      by_cases hlt : i < u - x
      · have c1 : wr.cell? ⟨w.heap.size, x + i, none⟩ = some (.int .i64 (A ((x + i : Nat) : Int))) := ra4.cell (x + i) (by omega)
        have c2 : wr.cell? ⟨w1.heap.size, y + i, none⟩ = some (.int .i64 (B ((y + i : Nat) : Int))) := rb4.cell (y + i) (by have := HUV.out; omega)
        have c3 : (A ((x : Int) + i) != B ((y : Int) + i)) = false := by
          have := HR.out i (by omega) (by omega)
          simpa using this
        have c4 : (i : Int) < u - x := by omega
        have c5 : (y : Int) + i < m := by have := HUV.out; omega
        rw [show ((x + i : Nat) : Int) = (x : Int) + i from by omega] at c1
        rw [show ((y + i : Nat) : Int) = (y : Int) + i from by omega] at c2
        go_wp2_with fail
        go_quiet (fail)
        go_wp2_with fail
        go_roundw
        case rel => exact ⟨i + 1, by omega, by go_num, ra4, rb4, ⟨bel4.os, bel4.tape, bel4.output, bel4.size, bel4.block⟩⟩
        case measure => simp [intOf]; omega
      · obtain rfl : i = u - x := by omega
        have uv := HUV.out
        have u1 := Lcs.S_le1 (A := A) (B := B) (i := 0) (j := 0) n m
        have u2 := Lcs.S_nn (A := A) (B := B) (i := 0) (j := 0) n m
        have eT : (n : Int) + m - 2 * Lcs.S A B 0 0 n m = (⟨A, B, n, m⟩ : Ms.Pm).T := rfl
        have eD : ∃ dT : Int, dT = (n : Int) + m - 2 * Lcs.S A B 0 0 n m := ⟨_, rfl⟩
        obtain ⟨dT, hdT⟩ := eD
        have HT : Hid (dT = (⟨A, B, n, m⟩ : Ms.Pm).T) := hdT.trans eT
        have u3 := Lcs.S_le2 (A := A) (B := B) (i := 0) (j := 0) n m
        have d0 : 0 ≤ dT := by omega
        have d1 : dT ≤ 100000 := by omega
        clear eT
        go_wp2_with fail
        refine (edit_any w.heap.size 0 n n w1.heap.size 0 m m A B wr ra4.lt rb4.lt hn hm ra4.reads rb4.reads).mono ?_
        rintro e w5 ⟨rfl, bel5⟩
        rw [← hdT]
        clear hdT u1 u2 u3 uv
        have ra5 := ra4.below bel5 ra4.lt
        have rb5 := rb4.below bel5 rb4.lt
        have bel6 : Below w.heap.size w w5 := bel4.trans (bel5.mono bel4.size)
        go_wp2_with fail
        refine t23 (x := x) (y := y) (u := u) (v := v) (n := n) (m := m) (A := A) (B := B) (dT := dT) ⟨⟨rfl, rfl⟩, rfl, rfl, rfl, rfl, rfl, rfl, rfl⟩ ra5 rb5 hn hm (by omega) (by omega) (fun a' w' h h15 hb => ?_)
        go_step
        exact tail8 h h15 (ra5.below hb ra5.lt) (rb5.below hb rb5.lt) hn hm (by omega) (by omega) HT.out d0 d1 HS1.out HS2.out (bel6.trans (hb.mono bel6.size))

/-- the ways that answer at once -/
theorem middle_short (a0 : Option Addr) (n0 c0 : Nat) (a1 : Option Addr) (n1 c1 : Nat) (w : World) (h0 : n0 ≤ maxLen) (h1 : n1 ≤ maxLen)
    (h : 512 < n0 ∨ 512 < n1 ∨ n0 = 0 ∨ n1 = 0) :
    Calls Try.prog 8 #[.slice a0 n0 c0, .slice a1 n1 c1] w fun e w' => e = .returned (.bool true) ∧ Below w.heap.size w w' := by
  go_enter Try.func8, Try.ntmps8
  go_wp2_with fail
  refine (zz24 _ _ _ _ _ _ _ h0 h1).mono ?_
  rintro e w' ⟨b, rfl, rfl⟩
  unfold maxLen at h0 h1
  cases b with
  | false =>
    go_wp2_with fail
    go_ret
    exact ⟨rfl, Below.refl _ _⟩
  | true =>
    by_cases q1 : 512 < n0
    · go_wp2_with fail
      go_ret
      exact ⟨rfl, Below.refl _ _⟩
    · by_cases q2 : 512 < n1
      · go_wp2_with fail
        go_ret
        exact ⟨rfl, Below.refl _ _⟩
      · by_cases q3 : n0 = 0
        · subst q3
          go_wp2_with fail
          go_ret
          exact ⟨rfl, Below.refl _ _⟩
        · have q3' : ((n0 : Int) == 0) = false := beq_eq_false_iff_ne.2 (by omega)
          obtain rfl : n1 = 0 := by omega
          clear h
          go_wp2_with fail
          go_ret
          exact ⟨rfl, Below.refl _ _⟩

end Go.Proofs.Qxb6601047a
