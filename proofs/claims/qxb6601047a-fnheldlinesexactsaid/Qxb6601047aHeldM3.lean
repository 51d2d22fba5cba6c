/-
  The walk of heldModel (function 21): its third and fourth loop, and the whole.
-/
import Derived.Test.Qxb6601047aHeldM1
namespace Go.Proofs.Qxb6601047a
open Go.RowKit Go.Maps
set_option linter.unusedSimpArgs false
set_option linter.unusedVariables false

structure SM3 (c : Mx) (a : Act) : Prop where
  ok : Ok107 a
  s0 : slot a 0 = .slice c.ad c.n c.ca
  s1 : slot a 1 = .slice c.bd c.m c.cb
  s5 : slot a 5 = .slice none 0 0
  s7 : slot a 7 = .slice none 0 0
  s8 : slot a 8 = .int .i64 c.n
  s9 : slot a 9 = .slice (some ⟨c.bF, 0, none⟩) c.n c.n
  s10 : slot a 10 = .slice (some ⟨c.bR, 0, none⟩) c.n c.n

structure MemM3 (c : Mx) (base k : Nat) (v4 v6 : Value) (w : World) : Prop where
  mem : MemM c c.n w
  pair : Pair w base v4 (Held.hA c.A c.B c.n c.m k) v6 (Held.xs c.A c.B c.m k)
  siz : base ≤ w.heap.size

theorem find_ge {A : Nat → ByteArray} {s : ByteArray} {n : Nat} : (0 ≤ Held.find A s n) = (Held.isIn A n s = true) := by
  unfold Held.find Held.isIn
  cases Held.idx A s n with
  | none => simp
  | some j => simp

set_option maxRecDepth 100000 in
set_option maxHeartbeats 2000000 in
theorem loopM3 {c : Mx} (hc : c.Fits) {base : Nat} (hbR : c.bR < base) {w : World} {a : Act} {Q : Exit → Act → World → Prop}
    (hS : SM3 c a) (s4 : slot a 4 = .slice none 0 0) (s6 : slot a 6 = .slice none 0 0) (s14 : slot a 14 = .int .i64 0) (hM : MemM3 c base 0 (.slice none 0 0) (.slice none 0 0) w)
    (hQ : ∀ a' w' v4 v6, SM3 c a' → slot a' 4 = v4 → slot a' 6 = v6 → MemM3 c base c.n v4 v6 w' → Q (.exit 4) a' w') : Wp21 [1, 1, 1, 1, 1, 1, 0, 1, 0] Q a w := by
  unfold Wp21
  conv => arg 2; whnf
  have hn := hc.hn
  have hm := hc.hm
  refine wp_loop (fun a w => ∃ (k : Nat) (v4 v6 : Value), k ≤ c.n ∧ SM3 c a ∧ slot a 4 = v4 ∧ slot a 6 = v6 ∧ slot a 14 = .int .i64 k ∧ MemM3 c base k v4 v6 w) (fun a _ => ((c.n : Int) - intOf (slot a 14)).toNat)
    ⟨0, _, _, Nat.zero_le _, hS, s4, s6, s14, hM⟩ ?_
  clear hS s4 s6 s14 hM w a
  rintro a w ⟨k, v4, v6, hk, hS, s4, s6, s14, hM⟩
  have hmu : intOf (slot a 14) = k := by rw [s14]; rfl
  rw [hmu]
  clear hmu
  obtain ⟨i0, hi, hz0, hz1, hz2⟩ := info_parts info3H
  obtain ⟨ok, s0, s1, s5, s7, s8, s9, s10⟩ := hS
  rw [Fr107_of ok]
  generalize slot a = s at *
  unfold Fr107
  simp only [s0, s1, s5, s7, s8, s9, s10, s4, s6, s14]
  clear s0 s1 s5 s7 s8 s9 s10 s4 s6 s14 ok
  by_cases hlt : k < c.n
  · obtain ⟨had, hbl⟩ := hc.la.at_ (by omega)
    rw [had]
    have g1 : w.cell? ⟨c.ba, c.oa + k, none⟩ = some (.string (c.A k)) := (hM.mem.bel.cell (by exact hbl)).trans (hc.la.cell k hlt)
    have hlB : Lines w c.bd c.bb c.ob c.m c.B := hc.lb.below hM.mem.bel (Nat.le_refl _)
    obtain ⟨f, hf1, hf2, hf3⟩ := fst_le (A := c.A) hlt
    have g2 : w.cell? ⟨c.bF, k, none⟩ = some (.int .i64 (if k < c.n then (fst c.A c.n k : Int) else 0)) := hM.mem.first.cell k hlt
    rw [if_pos hlt, hf2] at g2
    have g3 : w.cell? ⟨c.bR, f, none⟩ = some (.int .i64 (if f < c.n then (Held.dc c.A f : Int) else 0)) := hM.mem.rank.cell f (by omega)
    rw [if_pos (show f < c.n by omega), ← Held.num_of hf1] at g3
    have g5 : f < c.n := by omega
    have hnl : Held.num c.A c.n (c.A k) ≤ c.n := by rw [Held.num_of hf1]; have := Held.dc_le c.A f; omega
    cases hin : Held.isIn c.B c.m (c.A k) with
    | true =>
      have hge : 0 ≤ Held.find c.B (c.A k) c.m := by rw [find_ge]; exact hin
      have e1 : Held.hA c.A c.B c.n c.m (k + 1) = Held.hA c.A c.B c.n c.m k ++ [(Held.num c.A c.n (c.A k) : Int)] := Held.acc_yes hin
      have e2 : Held.xs c.A c.B c.m (k + 1) = Held.xs c.A c.B c.m k ++ [(k : Int)] := Held.acc_yes hin
      have l1 : (Held.hA c.A c.B c.n c.m k).length ≤ k := Held.acc_len _ _ _
      have l2 : (Held.xs c.A c.B c.m k).length ≤ k := Held.acc_len _ _ _
      have hz := hM.siz
      have hm1 := hc.m1
      have hm0 := hc.m0
      have hp := hM.pair
      have hfin : Hid (∀ (o1 o2 : Obj) (w1 w2 : World) (v4' v6' : Value), (w.alloc o1).grownBy w1 v4.ownBlock →
          w1.ownsRow base 3 1 v4' ((Held.hA c.A c.B c.n c.m k).length + 1) ((Held.hA c.A c.B c.n c.m k).map (Value.int .i64) ++ [.int .i64 (Held.num c.A c.n (c.A k))]) → (v4'.ownBlock = v4.ownBlock ∨ v4'.ownBlock = some (w.alloc o1).heap.size) →
          (w1.alloc o2).grownBy w2 v6.ownBlock → w2.ownsRow base 3 1 v6' ((Held.xs c.A c.B c.m k).length + 1) ((Held.xs c.A c.B c.m k).map (Value.int .i64) ++ [.int .i64 k]) → (v6'.ownBlock = v6.ownBlock ∨ v6'.ownBlock = some (w1.alloc o2).heap.size) →
          MemM3 c base (k + 1) v4' v6' w2) := by
        intro o1 o2 w1 w2 v4' v6' a1 a2 a3 b1 b2 b3
        have hpair := hp.pushed rfl a1 a2 a3 rfl b1 b2 b3
        have q4 : ∀ j, v4.ownBlock = some j → base ≤ j := fun j e => (hp.o1.lt j e).1
        have q6 : ∀ j, v6.ownBlock = some j → base ≤ j := fun j e => (hp.o2.lt j e).1
        have n4 : ∀ j, j < base → some j ≠ v4.ownBlock := fun j hj e => by have := q4 j e.symm; omega
        have n6 : ∀ j, j < base → some j ≠ v6.ownBlock := fun j hj e => by have := q6 j e.symm; omega
        have gs1 := a1.size
        have gs2 := b1.size
        have t1 : ∀ (W : World) (o : Obj), (W.alloc o).heap.size = W.heap.size + 1 := fun W o => by simp
        rw [t1] at gs1 gs2
        refine ⟨⟨?_, ?_, ?_⟩, ?_, by omega⟩
        · exact (((hM.mem.first.alloc o1).grown a1 (n4 _ (by omega))).alloc o2).grown b1 (n6 _ (by omega))
        · exact (((hM.mem.rank.alloc o1).grown a1 (n4 _ (by omega))).alloc o2).grown b1 (n6 _ (by omega))
        · exact Below.grown (Below.alloc (Below.grown (Below.alloc hM.mem.bel (by omega) o1) a1 (by rw [t1]; omega) (fun j e => by have := q4 j e; omega)) (by omega) o2) b1 (by rw [t1]; omega) (fun j e => by have := q6 j e; omega)
        · rw [e1, e2]; exact hpair
      have p1 : w.ownsRow base 3 1 v4 (Held.hA c.A c.B c.n c.m k).length ((Held.hA c.A c.B c.n c.m k).map (Value.int .i64)) := hp.o1
      have p2 : w.ownsRow base 3 1 v6 (Held.xs c.A c.B c.m k).length ((Held.xs c.A c.B c.m k).map (Value.int .i64)) := hp.o2
      have ap := hp.ap'
      have HB : Hid (Lines w c.bd c.bb c.ob c.m c.B) := hlB
      clear hM hp hin e1 e2 hf1 hf2 hlB
      generalize Held.hA c.A c.B c.n c.m k = L1 at *
      generalize Held.xs c.A c.B c.m k = L2 at *
      generalize Held.num c.A c.n (c.A k) = z at *
      go_wp2_with fail
      refine (indexIn_any c.bd c.bb c.ob c.m c.cb c.B (c.A k) w hm HB.out).mono ?_
      rintro e w' ⟨rfl, rfl⟩
      generalize Held.find c.B (c.A k) c.m = fi at *
      go_wp2_with (first
        | (at_builtin; refine wpList_append_own_at _ rfl (.tmp 64) (.tmp 72) 30 rfl base 3 i0 (.int .i64 0) 1 8 Try.underlying30 hi hz0 hz1 hz2 rfl (by decide) v4 L1.length _ rfl (p1.alloc _) ⟨w.heap.size, 0, none⟩ 1 1 [.int .i64 z] rfl rfl (cell_one_at _ _ (by simp) _ _) (ints_oneCell .i64 [(z : Int)]) (by unfold maxLen; omega) (by omega) (by simp; omega) ?_; intro v4' w1 hown1 hgrow1 hnil1 hloc1; have p2' := (p2.alloc _).kept hgrow1 ap; have hs1 := hgrow1.size)
        | (at_builtin; refine wpList_append_own_at _ rfl (.tmp 74) (.tmp 76) 30 rfl base 3 i0 (.int .i64 0) 1 8 Try.underlying30 hi hz0 hz1 hz2 rfl (by decide) v6 L2.length _ rfl (p2'.alloc _) ⟨w1.heap.size, 0, none⟩ 1 1 [.int .i64 k] rfl rfl (cell_one_at _ _ (by simp) _ _) (ints_oneCell .i64 [(k : Int)]) (by unfold maxLen; omega) (by omega) (by simp; simp at hs1; omega) ?_; intro v6' w2 hown2 hgrow2 hnil2 hloc2))
      refine ⟨⟨k + 1, v4', v6', by omega, ⟨⟨rfl, rfl⟩, (congrArg (fun z => Value.slice z c.n c.ca) had).symm, rfl, rfl, rfl, rfl, rfl, rfl⟩, rfl, rfl, rfl, hfin.out _ _ _ _ _ _ hgrow1 hown1 hloc1 hgrow2 hown2 hloc2⟩, ?_⟩
      · show ((c.n : Int) - intOf (Value.int .i64 ((k : Int) + 1))).toNat < _
        simp only [intOf]
        omega
    | false =>
      have hge : ¬ 0 ≤ Held.find c.B (c.A k) c.m := by rw [find_ge, hin]; simp
      have e1 : Held.hA c.A c.B c.n c.m (k + 1) = Held.hA c.A c.B c.n c.m k := Held.acc_no hin
      have e2 : Held.xs c.A c.B c.m (k + 1) = Held.xs c.A c.B c.m k := Held.acc_no hin
      have hM' : MemM3 c base (k + 1) v4 v6 w := ⟨hM.mem, by rw [e1, e2]; exact hM.pair, hM.siz⟩
      have HB : Hid (Lines w c.bd c.bb c.ob c.m c.B) := hlB
      clear e1 e2 hM hin hi hz0 hz1 hz2 hf1 hf2 hlB g2 g3
      go_wp2_with fail
      refine (indexIn_any c.bd c.bb c.ob c.m c.cb c.B (c.A k) w hm HB.out).mono ?_
      rintro e w' ⟨rfl, rfl⟩
      generalize Held.find c.B (c.A k) c.m = fi at *
      go_wp2
      refine ⟨⟨k + 1, v4, v6, by omega, ⟨⟨rfl, rfl⟩, (congrArg (fun z => Value.slice z c.n c.ca) had).symm, rfl, rfl, rfl, rfl, rfl, rfl⟩, rfl, rfl, rfl, hM'⟩, ?_⟩
      · show ((c.n : Int) - intOf (Value.int .i64 ((k : Int) + 1))).toNat < _
        simp only [intOf]
        omega
  · obtain rfl : k = c.n := by omega
    clear hi hz0 hz1 hz2
    go_wp2
    exact hQ _ _ _ _ ⟨⟨rfl, rfl⟩, rfl, rfl, rfl, rfl, rfl, rfl, rfl⟩ rfl rfl hM

end Go.Proofs.Qxb6601047a
