/-
  The walk of heldModel (function 21): its first loop.
-/
import Derived.Test.Qxb6601047aHeldAny
namespace Go.Proofs.Qxb6601047a
open Go.RowKit Go.Maps
set_option linter.unusedSimpArgs false
set_option linter.unusedVariables false

def Wp21 (p : List Nat) (Q : Exit → Act → World → Prop) (a : Act) (w : World) : Prop := (sub p (Try.f21.body.getD .skip)).wp Try.prog Q a w

set_option maxRecDepth 100000 in
def Fr107 (s : Nat → Value) : Act := ⟨#[s 0, s 1, s 2, s 3, s 4, s 5, s 6, s 7, s 8, s 9, s 10, s 11, s 12, s 13, s 14, s 15, s 16, s 17, s 18, s 19, s 20, s 21, s 22, s 23, s 24, s 25, s 26, s 27, s 28, s 29, s 30, s 31, s 32, s 33, s 34, s 35, s 36, s 37, s 38, s 39, s 40, s 41, s 42, s 43, s 44, s 45, s 46, s 47, s 48, s 49, s 50, s 51, s 52, s 53, s 54, s 55, s 56, s 57, s 58, s 59, s 60, s 61, s 62, s 63, s 64, s 65, s 66, s 67, s 68, s 69, s 70, s 71, s 72, s 73, s 74, s 75, s 76, s 77, s 78, s 79, s 80, s 81, s 82, s 83, s 84, s 85, s 86, s 87, s 88, s 89, s 90, s 91, s 92, s 93, s 94, s 95, s 96, s 97, s 98, s 99, s 100, s 101, s 102, s 103, s 104, s 105, s 106], []⟩

def Ok107 (a : Act) : Prop := a.tmps.size = 107 ∧ a.defers = []

set_option maxRecDepth 100000 in
theorem Fr107_eq (s : Nat → Value) : Fr107 s = ⟨((List.range 107).map s).toArray, []⟩ := rfl

theorem Fr107_of {a : Act} (h : Ok107 a) : a = Fr107 (slot a) := by
  rw [Fr107_eq]
  obtain ⟨h1, h2⟩ := h
  obtain ⟨t, d⟩ := a
  simp only at h1 h2
  subst h2
  congr 1
  apply Array.ext'
  apply List.ext_getElem?
  intro j
  by_cases hj : j < 107
  · rw [List.getElem?_map, List.getElem?_range hj]
    simp [slot, List.getD, h1, hj]
  · rw [List.getElem?_eq_none (by simp; omega), List.getElem?_eq_none (by simp; omega)]


/-- where a call of heldModel stands -/
structure Mx where
  (ad bd : Option Addr)
  (ba oa n ca bb ob m cb bF bR : Nat)
  (A B : Nat → ByteArray)
  (w0 : World)

structure Mx.Fits (c : Mx) : Prop where
  hn : c.n ≤ 4096
  hm : c.m ≤ 4096
  la : Lines c.w0 c.ad c.ba c.oa c.n c.A
  lb : Lines c.w0 c.bd c.bb c.ob c.m c.B
  m0 : c.w0.heap.size ≤ c.bF
  m1 : c.bF < c.bR

def fst (A : Nat → ByteArray) (n x : Nat) : Nat := (Held.idx A (A x) n).getD 0
def mixN (f : Nat → Nat) (i : Nat) : Nat → Value := fun j => .int .i64 (if j < i then (f j : Int) else 0)
theorem mixN_upd (f : Nat → Nat) (i : Nat) : upd (mixN f i) i (.int .i64 (f i)) = mixN f (i + 1) := by
  funext j
  simp only [upd, mixN]
  by_cases h : j = i
  · subst h; simp
  · by_cases h2 : j < i
    · rw [if_neg h, if_pos h2, if_pos (by omega)]
    · rw [if_neg h, if_neg h2, if_neg (by omega)]

structure SM (c : Mx) (a : Act) : Prop where
  ok : Ok107 a
  s0 : slot a 0 = .slice c.ad c.n c.ca
  s1 : slot a 1 = .slice c.bd c.m c.cb
  s4 : slot a 4 = .slice none 0 0
  s5 : slot a 5 = .slice none 0 0
  s6 : slot a 6 = .slice none 0 0
  s7 : slot a 7 = .slice none 0 0
  s8 : slot a 8 = .int .i64 c.n
  s9 : slot a 9 = .slice (some ⟨c.bF, 0, none⟩) c.n c.n
  s10 : slot a 10 = .slice (some ⟨c.bR, 0, none⟩) c.n c.n

structure MemM (c : Mx) (i : Nat) (w : World) : Prop where
  first : Row w c.bF 3 c.n (mixN (fst c.A c.n) i)
  rank : Row w c.bR 3 c.n (mixN (Held.dc c.A) i)
  bel : Below c.w0.heap.size c.w0 w

theorem MemM.drewN {c : Mx} {i : Nat} {w : World} (h : MemM c i w) (q : Nat) : MemM c i (w.drewN q) :=
  ⟨h.first, h.rank, ⟨h.bel.os, h.bel.tape, h.bel.output, h.bel.size, h.bel.block⟩⟩

set_option maxRecDepth 100000 in
set_option maxHeartbeats 1000000 in
theorem loopM2 {c : Mx} (hc : c.Fits) {i : Nat} (hi : i < c.n) {w : World} {a : Act} {Q : Exit → Act → World → Prop}
    (hS : SM c a) (s11 : slot a 11 = .int .i64 (Held.dc c.A i)) (s12 : slot a 12 = .int .i64 i) (s13 : slot a 13 = .int .i64 0) (hM : MemM c i w)
    (hQ : ∀ a' w', SM c a' → slot a' 11 = .int .i64 (Held.dc c.A i) → slot a' 12 = .int .i64 i → slot a' 13 = .int .i64 (fst c.A c.n i) → MemM c i w' → Q (.exit 2) a' w') : Wp21 [1, 1, 1, 1, 1, 0, 1, 0, 0, 1, 0, 0, 1, 0, 0] Q a w := by
  unfold Wp21
  conv => arg 2; whnf
  have hn := hc.hn
  refine wp_loop (fun a w => ∃ j : Nat, j ≤ i ∧ Hid (∀ j', j' < j → c.A j' ≠ c.A i) ∧ SM c a ∧ slot a 11 = .int .i64 (Held.dc c.A i) ∧ slot a 12 = .int .i64 i ∧ slot a 13 = .int .i64 j ∧ MemM c i w) (fun a _ => ((i : Int) - intOf (slot a 13)).toNat)
    ⟨0, Nat.zero_le _, fun j' h => by omega, hS, s11, s12, s13, hM⟩ ?_
  clear hS s11 s12 s13 hM w a
  rintro a w ⟨j, hj, hne, hS, s11, s12, s13, hM⟩
  have hmu : intOf (slot a 13) = j := by rw [s13]; rfl
  rw [hmu]
  clear hmu
  obtain ⟨ok, s0, s1, s4, s5, s6, s7, s8, s9, s10⟩ := hS
  rw [Fr107_of ok]
  generalize slot a = s at *
  unfold Fr107
  simp only [s0, s1, s4, s5, s6, s7, s8, s9, s10, s11, s12, s13]
  clear s0 s1 s4 s5 s6 s7 s8 s9 s10 s11 s12 s13 ok
  obtain ⟨had, hbl⟩ := hc.la.at_ (by omega)
  rw [had]
  have g1 : w.cell? ⟨c.ba, c.oa + j, none⟩ = some (.string (c.A j)) := (hM.bel.cell (by exact hbl)).trans (hc.la.cell j (by omega))
  have g2 : w.cell? ⟨c.ba, c.oa + i, none⟩ = some (.string (c.A i)) := (hM.bel.cell (by exact hbl)).trans (hc.la.cell i hi)
  have g3 : (j : Int) < c.n := by omega
  have g4 : (i : Int) < c.n := by omega
  by_cases he : c.A j = c.A i
  · have e : Hid (fst c.A c.n i = j) := by
      unfold fst
      rw [Held.idx_of (n := c.n) (j := j) (by omega) he hne.out]
      rfl
    have hb : ((c.A j).toList == (c.A i).toList) = true := str_eq_true he
    have HM : Hid (MemM c i w) := hM
    clear he hM
    go_wp2_with fail
    go_quiet (fail)
    go_wp2
    refine hQ _ _ ⟨⟨rfl, rfl⟩, (congrArg (fun z => Value.slice z c.n c.ca) had).symm, rfl, rfl, rfl, rfl, rfl, rfl, rfl, rfl⟩ rfl rfl ?_ (HM.out.drewN _)
    rw [e.out]; rfl
  · have hb : ((c.A j).toList == (c.A i).toList) = false := str_eq_false he
    have hji : j < i := by
      rcases Nat.lt_or_ge j i with h | h
      · exact h
      · exact absurd (by rw [show j = i from by omega]) he
    have HE : Hid (¬ c.A j = c.A i) := he
    have HM : Hid (MemM c i w) := hM
    clear he hM
    go_wp2_with fail
    go_quiet (fail)
    go_wp2
    refine ⟨⟨j + 1, by omega, fun j' h => ?_, ⟨⟨rfl, rfl⟩, (congrArg (fun z => Value.slice z c.n c.ca) had).symm, rfl, rfl, rfl, rfl, rfl, rfl, rfl, rfl⟩, rfl, rfl, rfl, HM.out.drewN _⟩, ?_⟩
    · by_cases e : j' = j
      · subst e; exact HE.out
      · exact hne.out j' (by omega)
    · show ((i : Int) - intOf (Value.int .i64 ((j : Int) + 1))).toNat < _
      simp only [intOf]
      omega

end Go.Proofs.Qxb6601047a
