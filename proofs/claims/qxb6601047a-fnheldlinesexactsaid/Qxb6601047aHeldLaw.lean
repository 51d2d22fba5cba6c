/-
  The walk of FnHeldLinesExact (function 6).
-/
import Derived.Test.Qxb6601047aHeldM4
namespace Go.Proofs.Qxb6601047a
open Go.RowKit Go.Maps
set_option linter.unusedSimpArgs false
set_option linter.unusedVariables false

theorem cloneLines_gen (ad : Option Addr) (b off n c : Nat) (A : Nat → ByteArray) (w : World) (hn : n ≤ 4096) (hL : Lines w ad b off n A) (hnil : ad = none → n = 0 ∧ c = 0) :
    Calls Try.prog 19 #[.slice ad n c] w fun e w' => ∃ ad' b', e = .returned (.slice ad' n n) ∧ Lines w' ad' b' 0 n A ∧ Below w.heap.size w w' := by
  cases ad with
  | none =>
    obtain ⟨rfl, rfl⟩ := hnil rfl
    refine (cloneLines_nil w).mono ?_
    rintro e w' ⟨rfl, rfl⟩
    exact ⟨none, 0, rfl, ⟨fun h => by omega, fun i hi => by omega⟩, Below.refl _ _⟩
  | some x =>
    refine (cloneLines_any x b off n c A w hn hL).mono ?_
    rintro e w' ⟨rfl, hr, hb⟩
    exact ⟨_, w.heap.size, rfl, ⟨fun _ => ⟨rfl, hr.lt⟩, hr.reads⟩, hb⟩

theorem OwnS.below {w w' : World} {b : Nat} {v : Value} {l : List Int} (h : OwnS w b v l) (hb : Below w.heap.size w w') : OwnS w' b v l := by
  obtain ⟨h1, h2⟩ := h
  refine ⟨h1, ?_⟩
  rcases h2 with h2 | ⟨g, cap, cur, e1, e2, e3, r⟩
  · exact .inl h2
  · exact .inr ⟨g, cap, cur, e1, e2, by rw [hb.block g (Array.getElem?_eq_some_iff.1 e3).1]; exact e3, r⟩

theorem zzheld_any (ad bd : Option Addr) (ba oa n ca bb ob m cb : Nat) (A B : Nat → ByteArray) (w : World) (hn : n ≤ 4096) (hm : m ≤ 4096) (la : Lines w ad ba oa n A) (lb : Lines w bd bb ob m B)
    (sa : ∀ i, i < n → (A i).size ≤ maxLen) (sb : ∀ i, i < m → (B i).size ≤ maxLen) :
    Calls Try.prog 20 #[.slice ad n ca, .slice bd m cb] w fun e w' => ∃ v4 v5 v6 v7, e = .returned (.tuple #[v4, v5, v6, v7]) ∧ Gives w' w.heap.size A B n m v4 v5 v6 v7 ∧ Below w.heap.size w w' := by
  go_enter Try.func20, Try.ntmps20
  go_wp2_with fail
  refine (held_any ad bd ba oa n ca bb ob m cb A B w hn hm la lb sa sb).mono ?_
  rintro e w' ⟨v4, v5, v6, v7, rfl, hg, hb⟩
  go_wp2_with fail
  refine bodyPost_ret (results4 rfl _ _ _) rfl ?_
  exact ⟨v4, v5, v6, v7, rfl, hg, hb⟩

set_option maxRecDepth 100000 in
set_option maxHeartbeats 1000000 in
theorem heldLaw_any (ad bd : Option Addr) (ba oa n ca bb ob m cb : Nat) (A B : Nat → ByteArray) (w : World) (hn : n ≤ maxLen) (hm : m ≤ maxLen) (la : Lines w ad ba oa n A) (lb : Lines w bd bb ob m B)
    (sa : ∀ i, i < n → (A i).size ≤ maxLen) (sb : ∀ i, i < m → (B i).size ≤ maxLen) (na : ad = none → n = 0 ∧ ca = 0) (nb : bd = none → m = 0 ∧ cb = 0) :
    Calls Try.prog 6 #[.slice ad n ca, .slice bd m cb] w fun e w' => e = .returned (.bool true) ∧ Below w.heap.size w w' := by
  go_enter Try.func6, Try.ntmps6
  go_wp2_with fail
  refine (zz17 ad bd ba oa n ca bb ob m cb A B w hn hm la lb sa sb).mono ?_
  rintro e w' ⟨⟨r, rfl⟩, rfl⟩
  cases r with
  | false =>
    go_wp2_with fail
    go_ret
    exact ⟨rfl, Below.refl _ _⟩
  | true =>
    by_cases hn4 : 4096 < n
    · unfold maxLen at hn hm
      go_wp2_with fail
      go_ret
      exact ⟨rfl, Below.refl _ _⟩
    · by_cases hm4 : 4096 < m
      · unfold maxLen at hn hm
        go_wp2_with fail
        go_ret
        exact ⟨rfl, Below.refl _ _⟩
      · have hn' : n ≤ 4096 := by omega
        have hm' : m ≤ 4096 := by omega
        clear hn hm hn4 hm4
        go_wp2_with fail
        refine (fit18 ad bd ba oa n ca bb ob m cb A B w hn' hm' la lb sa sb).mono ?_
        rintro e w' ⟨⟨r, rfl⟩, rfl⟩
        cases r with
        | false =>
          go_wp2_with fail
          go_ret
          exact ⟨rfl, Below.refl _ _⟩
        | true =>
          go_wp2_with fail
          refine (cloneLines_gen ad ba oa n ca A w hn' la na).mono ?_
          rintro e w1 ⟨ad1, b1, rfl, la1, bel1⟩
          go_wp2_with fail
          refine (cloneLines_gen bd bb ob m cb B w1 hm' (lb.below bel1 (Nat.le_refl _)) nb).mono ?_
          rintro e w2 ⟨bd1, b2, rfl, lb2, bel2⟩
          have la2 := la1.below bel2 (Nat.le_refl _)
          have hs1 := bel1.size
          have hs2 := bel2.size
          go_wp2_with fail
          refine (zzheld_any ad1 bd1 b1 0 n n b2 0 m m A B w2 hn' hm' la2 lb2 sa sb).mono ?_
          rintro e w3 ⟨v4, v5, v6, v7, rfl, hg, bel3⟩
          have la3 := la2.below bel3 (Nat.le_refl _)
          have lb3 := lb2.below bel3 (Nat.le_refl _)
          have hs3 := bel3.size
          go_wp2_with fail
          refine (model_any ad1 bd1 b1 0 n n b2 0 m m A B w3 hn' hm' la3 lb3).mono ?_
          rintro e w4 ⟨u4, u5, u6, u7, rfl, hg', bel4⟩
          have bel : Below w.heap.size w w4 := bel1.trans ((bel2.mono hs1).trans ((bel3.mono (by omega)).trans (bel4.mono (by omega))))
          have o4 := hg.o4.below bel4
          have o5 := hg.o5.below bel4
          have o6 := hg.o6.below bel4
          have o7 := hg.o7.below bel4
          have l4 : (Held.hA A B n m n).length ≤ 4096 := Nat.le_trans (Held.acc_len _ _ _) hn'
          have l5 : (Held.hB A B n m).length ≤ 4096 := Nat.le_trans (Held.acc_len _ _ _) hm'
          have l6 : (Held.xs A B m n).length ≤ 4096 := Nat.le_trans (Held.acc_len _ _ _) hn'
          have l7 : (Held.ys A B n m).length ≤ 4096 := Nat.le_trans (Held.acc_len _ _ _) hm'
          clear la la1 la2 la3 lb lb2 lb3 bel1 bel2 bel3 bel4 na nb
          have BEL : Hid (Below w.heap.size w w4) := bel
          clear bel
          go_wp2_with fail
          refine (sameInts_any v4 u4 _ _ _ w4 l4 o4 hg'.o4).mono ?_
          rintro e w5 ⟨rfl, q1, rfl⟩
          go_wp2_with fail
          refine (sameInts_any v5 u5 _ _ _ (w4.drewN q1) l5 o5 hg'.o5).mono ?_
          rintro e w5 ⟨rfl, q2, rfl⟩
          go_wp2_with fail
          refine (sameInts_any v6 u6 _ _ _ (w4.drewN (q1 + q2)) l6 o6 hg'.o6).mono ?_
          rintro e w5 ⟨rfl, q3, rfl⟩
          go_wp2_with fail
          refine (sameInts_any v7 u7 _ _ _ (w4.drewN (q1 + q2 + q3)) l7 o7 hg'.o7).mono ?_
          rintro e w5 ⟨rfl, q4, rfl⟩
          go_wp2_with fail
          go_ret
          have B4 := BEL.out
          exact ⟨rfl, ⟨B4.os, B4.tape, B4.output, B4.size, B4.block⟩⟩

end Go.Proofs.Qxb6601047a
