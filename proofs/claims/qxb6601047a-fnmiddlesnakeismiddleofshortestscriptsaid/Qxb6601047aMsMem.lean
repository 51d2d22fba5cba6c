/-
  The memory of a call of middleSnake.
-/
import Derived.Test.Qxb6601047aMsFr
namespace Go.Proofs.Qxb6601047a
open Go.RowKit
set_option linter.unusedSimpArgs false
set_option linter.unusedVariables false

/-- What a call of middleSnake stands in: the blocks of a, b, *left, n, m, fwd, back; the lengths; the lines; the world at the call's begin. -/
structure Cx where
  (ba bb pl bn bm bF bG n m : Nat)
  (A B : Int → Int)
  (w0 : World)

structure Cx.Fits (c : Cx) : Prop where
  hn : c.n ≤ 512
  hm : c.m ≤ 512
  n1 : 1 ≤ c.n
  m1 : 1 ≤ c.m
  a1 : c.ba < c.pl
  a2 : c.bb < c.pl
  p1 : c.pl < c.bn
  p2 : c.pl < c.bm
  p3 : c.pl < c.bF
  p4 : c.pl < c.bG
  d1 : c.bn ≠ c.bm
  d2 : c.bn ≠ c.bF
  d3 : c.bn ≠ c.bG
  d4 : c.bm ≠ c.bF
  d5 : c.bm ≠ c.bG
  d6 : c.bF ≠ c.bG

def lineV (A : Int → Int) : Nat → Value := fun i => .int .i64 (A i)
def diagV (m : Nat) (F : Int → Int) : Nat → Value := fun i => .int .i64 (F ((i : Int) - ((m : Int) + 1)))
def oneV (z : Int) : Nat → Value := fun _ => .int .i64 z

theorem oneV_upd (z z' : Int) : upd (oneV z) 0 (.int .i64 z') 0 = oneV z' 0 := rfl

structure Mem (c : Cx) (F G : Int → Int) (L : Int) (w : World) : Prop where
  ra : Row w c.ba 3 c.n (lineV c.A)
  rb : Row w c.bb 3 c.m (lineV c.B)
  rl : Row w c.pl 3 1 (oneV L)
  rn : Row w c.bn 3 1 (oneV c.n)
  rm : Row w c.bm 3 1 (oneV c.m)
  rF : Row w c.bF 3 (c.n + c.m + 3) (diagV c.m F)
  rG : Row w c.bG 3 (c.n + c.m + 3) (diagV c.m G)
  bel : Below c.pl c.w0 w

section
variable {c : Cx} {F G : Int → Int} {L : Int} {w : World}

theorem Mem.drew (h : Mem c F G L w) : Mem c F G L w.drew := ⟨h.ra.drew, h.rb.drew, h.rl.drew, h.rn.drew, h.rm.drew, h.rF.drew, h.rG.drew, h.bel.drew⟩

theorem Mem.drewN (h : Mem c F G L w) (q : Nat) : Mem c F G L (w.drewN q) := by
  have e : (w.drewN q).heap = w.heap := rfl
  exact ⟨h.ra, h.rb, h.rl, h.rn, h.rm, h.rF, h.rG, ⟨h.bel.os, h.bel.tape, h.bel.output, h.bel.size, h.bel.block⟩⟩

theorem diagV_upd (m : Nat) (F : Int → Int) (k x : Int) (h : 0 ≤ k + ((m : Int) + 1)) : upd (diagV m F) (k + ((m : Int) + 1)).toNat (.int .i64 x) = diagV m (Ms.updZ F k x) := by
  funext j
  simp only [upd, diagV, Ms.updZ]
  by_cases hj : j = (k + ((m : Int) + 1)).toNat
  · rw [if_pos hj, if_pos (by omega)]
  · rw [if_neg hj, if_neg (by omega)]

theorem Mem.setF (hc : c.Fits) (h : Mem c F G L w) (k x : Int) (hk : 0 ≤ k + ((c.m : Int) + 1)) : Mem c (Ms.updZ F k x) G L (w.setCell ⟨c.bF, (k + ((c.m : Int) + 1)).toNat, none⟩ (.int .i64 x)) := by
  have d := hc.a1; have d' := hc.a2; have p1 := hc.p1; have p2 := hc.p2; have p3 := hc.p3; have p4 := hc.p4
  have d2 := hc.d2; have d4 := hc.d4; have d6 := hc.d6
  refine ⟨h.ra.other _ _ ?_, h.rb.other _ _ ?_, h.rl.other _ _ ?_, h.rn.other _ _ ?_, h.rm.other _ _ ?_, ?_, h.rG.other _ _ ?_, h.bel.setCell ?_ _⟩
  · show c.ba ≠ c.bF; omega
  · show c.bb ≠ c.bF; omega
  · show c.pl ≠ c.bF; omega
  · show c.bn ≠ c.bF; omega
  · show c.bm ≠ c.bF; omega
  · have := h.rF.set (k + ((c.m : Int) + 1)).toNat (.int .i64 x)
    rw [diagV_upd _ _ _ _ hk] at this
    exact this
  · show c.bG ≠ c.bF; omega
  · show c.pl ≤ c.bF; omega

theorem Mem.setG (hc : c.Fits) (h : Mem c F G L w) (k x : Int) (hk : 0 ≤ k + ((c.m : Int) + 1)) : Mem c F (Ms.updZ G k x) L (w.setCell ⟨c.bG, (k + ((c.m : Int) + 1)).toNat, none⟩ (.int .i64 x)) := by
  have d := hc.a1; have d' := hc.a2; have p1 := hc.p1; have p2 := hc.p2; have p3 := hc.p3; have p4 := hc.p4
  have d2 := hc.d3; have d4 := hc.d5; have d6 := hc.d6
  refine ⟨h.ra.other _ _ ?_, h.rb.other _ _ ?_, h.rl.other _ _ ?_, h.rn.other _ _ ?_, h.rm.other _ _ ?_, h.rF.other _ _ ?_, ?_, h.bel.setCell ?_ _⟩
  · show c.ba ≠ c.bG; omega
  · show c.bb ≠ c.bG; omega
  · show c.pl ≠ c.bG; omega
  · show c.bn ≠ c.bG; omega
  · show c.bm ≠ c.bG; omega
  · show c.bF ≠ c.bG; omega
  · have := h.rG.set (k + ((c.m : Int) + 1)).toNat (.int .i64 x)
    rw [diagV_upd _ _ _ _ hk] at this
    exact this
  · show c.pl ≤ c.bG; omega

theorem Mem.setL (hc : c.Fits) (h : Mem c F G L w) (z : Int) : Mem c F G z (w.setCell ⟨c.pl, 0, none⟩ (.int .i64 z)) := by
  have d := hc.a1; have d' := hc.a2; have p1 := hc.p1; have p2 := hc.p2; have p3 := hc.p3; have p4 := hc.p4
  refine ⟨h.ra.other _ _ ?_, h.rb.other _ _ ?_, ?_, h.rn.other _ _ ?_, h.rm.other _ _ ?_, h.rF.other _ _ ?_, h.rG.other _ _ ?_, h.bel.setCell ?_ _⟩
  · show c.ba ≠ c.pl; omega
  · show c.bb ≠ c.pl; omega
  · exact (h.rl.set 0 (.int .i64 z)).congr (fun i hi => by have : i = 0 := by omega
                                                           subst this; rfl)
  · show c.bn ≠ c.pl; omega
  · show c.bm ≠ c.pl; omega
  · show c.bF ≠ c.pl; omega
  · show c.bG ≠ c.pl; omega
  · show c.pl ≤ c.pl; omega

theorem Mem.cA (h : Mem c F G L w) (x : Int) (h0 : 0 ≤ x) (h1 : x < c.n) : w.cell? ⟨c.ba, x.toNat, none⟩ = some (.int .i64 (c.A x)) := by
  rw [h.ra.cell x.toNat (by omega)]; unfold lineV; rw [show ((x.toNat : Nat) : Int) = x from by omega]
theorem Mem.cB (h : Mem c F G L w) (x : Int) (h0 : 0 ≤ x) (h1 : x < c.m) : w.cell? ⟨c.bb, x.toNat, none⟩ = some (.int .i64 (c.B x)) := by
  rw [h.rb.cell x.toNat (by omega)]; unfold lineV; rw [show ((x.toNat : Nat) : Int) = x from by omega]
theorem Mem.cn (h : Mem c F G L w) : w.cell? ⟨c.bn, 0, none⟩ = some (.int .i64 c.n) := h.rn.cell 0 (by omega)
theorem Mem.cm (h : Mem c F G L w) : w.cell? ⟨c.bm, 0, none⟩ = some (.int .i64 c.m) := h.rm.cell 0 (by omega)
theorem Mem.cl (h : Mem c F G L w) : w.cell? ⟨c.pl, 0, none⟩ = some (.int .i64 L) := h.rl.cell 0 (by omega)
theorem Mem.fl (h : Mem c F G L w) : w.frozen? ⟨c.pl, 0, none⟩ = false := h.rl.free 0
theorem Mem.cF (h : Mem c F G L w) (i k : Int) (hi : i = k + ((c.m : Int) + 1)) (h0 : 0 ≤ i) (h1 : i < c.n + c.m + 3) : w.cell? ⟨c.bF, i.toNat, none⟩ = some (.int .i64 (F k)) := by
  rw [h.rF.cell i.toNat (by omega)]; unfold diagV; rw [show ((i.toNat : Nat) : Int) - ((c.m : Int) + 1) = k from by omega]
theorem Mem.cG (h : Mem c F G L w) (i k : Int) (hi : i = k + ((c.m : Int) + 1)) (h0 : 0 ≤ i) (h1 : i < c.n + c.m + 3) : w.cell? ⟨c.bG, i.toNat, none⟩ = some (.int .i64 (G k)) := by
  rw [h.rG.cell i.toNat (by omega)]; unfold diagV; rw [show ((i.toNat : Nat) : Int) - ((c.m : Int) + 1) = k from by omega]
theorem Mem.fF (h : Mem c F G L w) (i : Nat) : w.frozen? ⟨c.bF, i, none⟩ = false := h.rF.free i
theorem Mem.fG (h : Mem c F G L w) (i : Nat) : w.frozen? ⟨c.bG, i, none⟩ = false := h.rG.free i
end

/-- The slots that stand still behind the head of middleSnake. -/
structure Base (c : Cx) (odd : Bool) (a : Act) : Prop where
  ok : Ok34 a
  s0 : slot a 0 = .slice (some ⟨c.ba, 0, none⟩) c.n c.n
  s1 : slot a 1 = .slice (some ⟨c.bb, 0, none⟩) c.m c.m
  s2 : slot a 2 = .pointer (some ⟨c.pl, 0, none⟩)
  s11 : slot a 11 = .pointer (some ⟨c.bn, 0, none⟩)
  s12 : slot a 12 = .pointer (some ⟨c.bm, 0, none⟩)
  s13 : slot a 13 = .bool odd
  s14 : slot a 14 = .int .i64 ((c.m : Int) + 1)
  s15 : slot a 15 = .slice (some ⟨c.bF, 0, none⟩) (c.n + c.m + 3) (c.n + c.m + 3)
  s16 : slot a 16 = .slice (some ⟨c.bG, 0, none⟩) (c.n + c.m + 3) (c.n + c.m + 3)
  s18 : slot a 18 = .func (.func 39) #[] #[.pointer (some ⟨c.bm, 0, none⟩), .pointer (some ⟨c.bn, 0, none⟩)]

end Go.Proofs.Qxb6601047a
