/-
  The walk of heldModel (function 21): the outer first loop.
-/
import Derived.Test.Qxb6601047aHeldM2
namespace Go.Proofs.Qxb6601047a
open Go.RowKit Go.Maps
set_option linter.unusedSimpArgs false
set_option linter.unusedVariables false

theorem fst_le {A : Nat → ByteArray} {n x : Nat} (hx : x < n) : ∃ j, Held.idx A (A x) n = some j ∧ fst A n x = j ∧ j ≤ x := by
  cases h : Held.idx A (A x) n with
  | none => exact absurd rfl (Held.idx_none h x hx)
  | some j =>
    obtain ⟨h1, h2, h3⟩ := Held.idx_some h
    refine ⟨j, rfl, by simp [fst, h], ?_⟩
    rcases Nat.lt_or_ge x j with hlt | hge
    · exact absurd rfl (h3 x hlt)
    · exact hge

theorem dc_step {A : Nat → ByteArray} {n x : Nat} (hx : x < n) : Held.dc A (x + 1) = Held.dc A x + (if fst A n x = x then 1 else 0) := by
  obtain ⟨j, h1, h2, h3⟩ := fst_le (A := A) hx
  obtain ⟨q1, q2, q3⟩ := Held.idx_some h1
  rw [h2]
  by_cases e : j = x
  · rw [if_pos e]
    subst e
    exact Held.dc_new q3
  · rw [if_neg e]
    have := Held.idx_of (n := x) (j := j) (s := A x) (by omega) q2 q3
    rw [Held.dc_old this]
    rfl

theorem MemM.step {c : Mx} (hc : c.Fits) {i : Nat} {w : World} (h : MemM c i w) :
    MemM c (i + 1) ((w.setCell ⟨c.bF, i, none⟩ (.int .i64 (fst c.A c.n i))).setCell ⟨c.bR, i, none⟩ (.int .i64 (Held.dc c.A i))) := by
  have m0 := hc.m0
  have m1 := hc.m1
  refine ⟨?_, ?_, (h.bel.setCell (by show c.w0.heap.size ≤ c.bF; omega) _).setCell (by show c.w0.heap.size ≤ c.bR; omega) _⟩
  · refine Row.other ?_ _ _ (by show c.bF ≠ c.bR; omega)
    have := h.first.set i (.int .i64 (fst c.A c.n i)); rw [mixN_upd] at this; exact this
  · have := (h.rank.other ⟨c.bF, i, none⟩ (.int .i64 (fst c.A c.n i)) (by show c.bR ≠ c.bF; omega)).set i (.int .i64 (Held.dc c.A i)); rw [mixN_upd] at this; exact this

set_option maxRecDepth 100000 in
set_option maxHeartbeats 1000000 in
theorem hM6 {c : Mx} {i : Nat} {w : World} {a : Act} {z : Int} {Q : Exit → Act → World → Prop} (hS : SM c a) (s11 : slot a 11 = .int .i64 z) (s12 : slot a 12 = .int .i64 i)
    (hE : c.n ≤ i → ∀ a', SM c a' → slot a' 11 = .int .i64 z → Q (.exit 0) a' w) (hN : i < c.n → ∀ a', SM c a' → slot a' 11 = .int .i64 z → slot a' 12 = .int .i64 i → Q .normal a' w) : Wp21 [1, 1, 1, 1, 1, 0, 1, 0, 0, 0] Q a w := by
  unfold Wp21
  conv => arg 2; whnf
  obtain ⟨ok, s0, s1, s4, s5, s6, s7, s8, s9, s10⟩ := hS
  rw [Fr107_of ok]
  generalize slot a = s at *
  unfold Fr107
  simp only [s0, s1, s4, s5, s6, s7, s8, s9, s10, s11, s12]
  clear s0 s1 s4 s5 s6 s7 s8 s9 s10 s11 s12 ok
  by_cases c1 : i < c.n
  · go_wp2
    exact hN c1 _ ⟨⟨rfl, rfl⟩, rfl, rfl, rfl, rfl, rfl, rfl, rfl, rfl, rfl⟩ rfl rfl
  · go_wp2
    exact hE (by omega) _ ⟨⟨rfl, rfl⟩, rfl, rfl, rfl, rfl, rfl, rfl, rfl, rfl, rfl⟩ rfl

set_option maxRecDepth 100000 in
set_option maxHeartbeats 1000000 in
theorem rM8 {c : Mx} {i : Nat} {w : World} {a : Act} {z : Int} {Q : Exit → Act → World → Prop} (hS : SM c a) (s11 : slot a 11 = .int .i64 z) (s12 : slot a 12 = .int .i64 i)
    (hQ : ∀ a', SM c a' → slot a' 11 = .int .i64 z → slot a' 12 = .int .i64 i → slot a' 13 = .int .i64 0 → Q .normal a' w) : Wp21 [1, 1, 1, 1, 1, 0, 1, 0, 0, 1, 0, 0, 0] Q a w := by
  unfold Wp21
  conv => arg 2; whnf
  obtain ⟨ok, s0, s1, s4, s5, s6, s7, s8, s9, s10⟩ := hS
  rw [Fr107_of ok]
  generalize slot a = s at *
  unfold Fr107
  simp only [s0, s1, s4, s5, s6, s7, s8, s9, s10, s11, s12]
  clear s0 s1 s4 s5 s6 s7 s8 s9 s10 s11 s12 ok
  go_wp2
  exact hQ _ ⟨⟨rfl, rfl⟩, rfl, rfl, rfl, rfl, rfl, rfl, rfl, rfl, rfl⟩ rfl rfl rfl

set_option maxRecDepth 100000 in
set_option maxHeartbeats 1000000 in
/-- regions 11 to 14 -/
theorem rM11 {c : Mx} (hc : c.Fits) {i : Nat} (hi : i < c.n) {w : World} {a : Act} {Q : Exit → Act → World → Prop} (hS : SM c a) (s11 : slot a 11 = .int .i64 (Held.dc c.A i)) (s12 : slot a 12 = .int .i64 i) (s13 : slot a 13 = .int .i64 (fst c.A c.n i)) (hM : MemM c i w)
    (hQ : ∀ a' w', SM c a' → slot a' 11 = .int .i64 (Held.dc c.A (i + 1)) → slot a' 12 = .int .i64 i → MemM c (i + 1) w' → Q .normal a' w') : Wp21 [1, 1, 1, 1, 1, 0, 1, 0, 0, 1, 0, 0, 1, 1] Q a w := by
  unfold Wp21
  conv => arg 2; whnf
  have hn := hc.hn
  have m1 := hc.m1
  have hdc := Held.dc_le c.A i
  have hM' := hM.step hc
  have g1 : w.cell? ⟨c.bF, i, none⟩ = some (.int .i64 (if i < i then (fst c.A c.n i : Int) else 0)) := hM.first.cell i hi
  have g2 := hM.first.free i
  have hr := hM.rank.other ⟨c.bF, i, none⟩ (.int .i64 (fst c.A c.n i)) (by show c.bR ≠ c.bF; omega)
  have g3 : (w.setCell ⟨c.bF, i, none⟩ (.int .i64 (fst c.A c.n i))).cell? ⟨c.bR, i, none⟩ = some (.int .i64 (if i < i then (Held.dc c.A i : Int) else 0)) := hr.cell i hi
  have g4 := hr.free i
  rw [if_neg (Nat.lt_irrefl i)] at g1 g3
  have hst := dc_step (A := c.A) hi
  clear hM hr
  obtain ⟨ok, s0, s1, s4, s5, s6, s7, s8, s9, s10⟩ := hS
  rw [Fr107_of ok]
  generalize slot a = s at *
  unfold Fr107
  simp only [s0, s1, s4, s5, s6, s7, s8, s9, s10, s11, s12, s13]
  clear s0 s1 s4 s5 s6 s7 s8 s9 s10 s11 s12 s13 ok
  have g5 : (i : Int) < c.n := by omega
  by_cases e : fst c.A c.n i = i
  · have he : ((fst c.A c.n i : Int) == (i : Int)) = true := by simp [e]
    rw [if_pos e] at hst
    have HST : Hid (Held.dc c.A (i + 1) = Held.dc c.A i + 1) := hst
    clear hst e
    generalize fst c.A c.n i = f at *
    go_wp2
    refine hQ _ _ ⟨⟨rfl, rfl⟩, rfl, rfl, rfl, rfl, rfl, rfl, rfl, rfl, rfl⟩ ?_ rfl hM'
    rw [HST.out]; rfl
  · have he : ((fst c.A c.n i : Int) == (i : Int)) = false := by rw [beq_eq_false_iff_ne]; omega
    rw [if_neg e] at hst
    have HST : Hid (Held.dc c.A (i + 1) = Held.dc c.A i) := hst
    clear hst e
    generalize fst c.A c.n i = f at *
    go_wp2
    refine hQ _ _ ⟨⟨rfl, rfl⟩, rfl, rfl, rfl, rfl, rfl, rfl, rfl, rfl, rfl⟩ ?_ rfl hM'
    rw [HST.out]; rfl

set_option maxRecDepth 100000 in
set_option maxHeartbeats 1000000 in
theorem rM7 {c : Mx} {i : Nat} {w : World} {a : Act} {z : Int} {Q : Exit → Act → World → Prop} (hi : i ≤ 100000) (hS : SM c a) (s11 : slot a 11 = .int .i64 z) (s12 : slot a 12 = .int .i64 i)
    (hQ : ∀ a', SM c a' → slot a' 11 = .int .i64 z → slot a' 12 = .int .i64 ((i + 1 : Nat) : Int) → Q .normal a' w) : Wp21 [1, 1, 1, 1, 1, 0, 1, 0, 0, 1, 1] Q a w := by
  unfold Wp21
  conv => arg 2; whnf
  obtain ⟨ok, s0, s1, s4, s5, s6, s7, s8, s9, s10⟩ := hS
  rw [Fr107_of ok]
  generalize slot a = s at *
  unfold Fr107
  simp only [s0, s1, s4, s5, s6, s7, s8, s9, s10, s11, s12]
  clear s0 s1 s4 s5 s6 s7 s8 s9 s10 s11 s12 ok
  go_wp2
  exact hQ _ ⟨⟨rfl, rfl⟩, rfl, rfl, rfl, rfl, rfl, rfl, rfl, rfl, rfl⟩ rfl rfl

theorem loopM1 {c : Mx} (hc : c.Fits) {w : World} {a : Act} {Q : Exit → Act → World → Prop}
    (hS : SM c a) (s11 : slot a 11 = .int .i64 0) (s12 : slot a 12 = .int .i64 0) (hM : MemM c 0 w)
    (hQ : ∀ a' w', SM c a' → MemM c c.n w' → Q (.exit 0) a' w') : Wp21 [1, 1, 1, 1, 1, 0, 1, 0] Q a w := by
  have hn := hc.hn
  refine wp_loop (fun a w => ∃ i : Nat, i ≤ c.n ∧ SM c a ∧ slot a 11 = .int .i64 (Held.dc c.A i) ∧ slot a 12 = .int .i64 i ∧ MemM c i w) (fun a _ => ((c.n : Int) - intOf (slot a 12)).toNat)
    ⟨0, Nat.zero_le _, hS, s11, s12, hM⟩ ?_
  clear hS s11 s12 hM w a
  rintro a w ⟨i, hi, hS, s11, s12, hM⟩
  have hmu : intOf (slot a 12) = i := by rw [s12]; rfl
  rw [hmu]
  clear hmu
  refine wp_mid (fun a' w' => i < c.n ∧ SM c a' ∧ slot a' 11 = .int .i64 (Held.dc c.A i) ∧ slot a' 12 = .int .i64 i ∧ MemM c i w') (hM6 hS s11 s12 (fun hge a' h h11 => ?_) (fun hlt a' h h11 h12 => ⟨hlt, h, h11, h12, hM⟩)) ?_
  · obtain rfl : i = c.n := by omega
    exact hQ a' w h hM
  rintro a w ⟨hlt, hS, s11, s12, hM⟩
  refine wp_mid (fun a' w' => SM c a' ∧ slot a' 11 = .int .i64 (Held.dc c.A (i + 1)) ∧ slot a' 12 = .int .i64 i ∧ MemM c (i + 1) w') (wp_block ?_) ?_
  · refine wp_mid (fun a' w' => SM c a' ∧ slot a' 11 = .int .i64 (Held.dc c.A i) ∧ slot a' 12 = .int .i64 i ∧ slot a' 13 = .int .i64 0 ∧ MemM c i w') (rM8 hS s11 s12 (fun a' h h11 h12 h13 => ⟨h, h11, h12, h13, hM⟩)) ?_
    rintro a w ⟨hS, s11, s12, s13, hM⟩
    refine wp_mid (fun a' w' => SM c a' ∧ slot a' 11 = .int .i64 (Held.dc c.A i) ∧ slot a' 12 = .int .i64 i ∧ slot a' 13 = .int .i64 (fst c.A c.n i) ∧ MemM c i w') (wp_block (loopM2 hc hlt hS s11 s12 s13 hM (fun a' w' h h11 h12 h13 hm => ⟨h, h11, h12, h13, hm⟩))) ?_
    rintro a w ⟨hS, s11, s12, s13, hM⟩
    exact rM11 hc hlt hS s11 s12 s13 hM (fun a' w' h h11 h12 hm => ⟨h, h11, h12, hm⟩)
  rintro a w ⟨hS, s11, s12, hM⟩
  refine rM7 (by omega) hS s11 s12 (fun a' h h11 h12 => ⟨⟨i + 1, by omega, h, h11, h12, hM⟩, ?_⟩)
  have hmu2 : intOf (slot a' 12) = ((i + 1 : Nat) : Int) := by rw [h12]; rfl
  rw [hmu2]
  omega

end Go.Proofs.Qxb6601047a
