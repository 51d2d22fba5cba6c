import Derived.Test.Qxb6601047aHeldL1
namespace Go.Proofs.Qxb6601047a
open Go.RowKit Go.Maps
set_option linter.unusedSimpArgs false
set_option linter.unusedVariables false

theorem info3H : (Try.prog.info? 3).map (fun i => (i.zero, i.size, i.bytes)) = some (some (.int .i64 0), 1, 8) := by kernel_rfl

theorem cell_one_at (W : World) (n : Nat) (h : n = W.heap.size) (x : Value) (t : TypeId) : ∀ j u, [x][j]? = some u → (W.alloc (.cells #[x] t)).cell? ((⟨n, 0, none⟩ : Addr).add j) = some u := by
  subst h; exact cell_one_new W x t

/-- two slices of the call's own that lie apart -/
structure Pair (w : World) (base : Nat) (v1 : Value) (l1 : List Int) (v2 : Value) (l2 : List Int) : Prop where
  o1 : OwnS w base v1 l1
  o2 : OwnS w base v2 l2
  ap : v1.ownBlock = none ∨ v1.ownBlock ≠ v2.ownBlock

theorem Pair.start (w : World) (base : Nat) : Pair w base (.slice none 0 0) [] (.slice none 0 0) [] := ⟨World.ownsRow_nil _ _ _ _, World.ownsRow_nil _ _ _ _, .inl rfl⟩

theorem OwnS.lt {w : World} {base : Nat} {v : Value} {l : List Int} (h : OwnS w base v l) : ∀ k, v.ownBlock = some k → base ≤ k ∧ k < w.heap.size := World.ownsRow.lt h

theorem Pair.ap' {w : World} {base : Nat} {v1 v2 : Value} {l1 l2 : List Int} (h : Pair w base v1 l1 v2 l2) : v2.ownBlock = none ∨ v2.ownBlock ≠ v1.ownBlock := by
  cases hb : v2.ownBlock with
  | none => exact .inl rfl
  | some k =>
    right
    intro e
    rcases h.ap with h1 | h1
    · rw [h1] at e; cases e
    · exact h1 (by rw [← e, hb])

theorem Pair.setBelow {w : World} {base : Nat} {v1 v2 : Value} {l1 l2 : List Int} (h : Pair w base v1 l1 v2 l2) {a : Addr} (ha : a.block < base) (u : Value) : Pair (w.setCell a u) base v1 l1 v2 l2 :=
  ⟨ownsRow_setCell_below h.o1 ha u, ownsRow_setCell_below h.o2 ha u, h.ap⟩

/-- both have grown by one -/
theorem Pair.pushed {w wa1 w1 wa2 w2 : World} {base : Nat} {v1 v2 v1' v2' : Value} {l1 l2 : List Int} {x y : Int} {o1 o2 : Obj} (h : Pair w base v1 l1 v2 l2)
    (e1 : wa1 = w.alloc o1) (g1 : wa1.grownBy w1 v1.ownBlock) (n1 : w1.ownsRow base 3 1 v1' (l1.length + 1) (l1.map (Value.int .i64) ++ [.int .i64 x])) (p1 : v1'.ownBlock = v1.ownBlock ∨ v1'.ownBlock = some wa1.heap.size)
    (e2 : wa2 = w1.alloc o2) (g2 : wa2.grownBy w2 v2.ownBlock) (n2 : w2.ownsRow base 3 1 v2' (l2.length + 1) (l2.map (Value.int .i64) ++ [.int .i64 y])) (p2 : v2'.ownBlock = v2.ownBlock ∨ v2'.ownBlock = some wa2.heap.size) :
    Pair w2 base v1' (l1 ++ [x]) v2' (l2 ++ [y]) := by
  subst e1 e2
  have sz1 : (w.alloc o1).heap.size = w.heap.size + 1 := by simp
  have sz2 : (w1.alloc o2).heap.size = w1.heap.size + 1 := by simp
  have gs := g1.size
  have k1 : w1.ownsRow base 3 1 v1' (l1.length + 1) (l1.map (Value.int .i64) ++ [.int .i64 x]) := n1
  -- v1' is not v2's block
  have d1 : v1'.ownBlock = none ∨ v1'.ownBlock ≠ v2.ownBlock := by
    rcases p1 with p | p
    · rw [p]; exact h.ap
    · right
      rw [p]
      intro e
      have := (h.o2.lt _ e.symm).2
      omega
  have k2 := (k1.alloc o2).kept g2 d1
  refine ⟨?_, ?_, ?_⟩
  · unfold OwnS
    rw [List.length_append, List.map_append]
    exact k2
  · unfold OwnS
    rw [List.length_append, List.map_append]
    exact n2
  · rcases p2 with p | p
    · rw [p]; exact d1
    · cases hb : v1'.ownBlock with
      | none => exact .inl rfl
      | some k =>
        right
        rw [p]
        intro e
        have e' := Option.some.inj e
        have := (World.ownsRow.lt k1 k hb).2
        omega

structure SH2 (c : Hx) (bI : Nat) (a : Act) : Prop where
  ok : Ok105 a
  s4 : slot a 4 = .slice none 0 0
  s6 : slot a 6 = .slice none 0 0
  s8 : slot a 8 = .map (some c.bm)
  s9 : slot a 9 = .slice (some ⟨c.bN, 0, none⟩) c.n c.n
  s14 : slot a 14 = .slice (some ⟨bI, 0, none⟩) (Held.dc c.A c.n) (Held.dc c.A c.n)

def seenV (c : Hx) (k : Nat) : Nat → Value := fun i => .bool (Held.seen c.A c.B c.n i k)

theorem seenV_yes {c : Hx} {k : Nat} (h : Held.isIn c.A c.n (c.B k) = true) : upd (seenV c k) (Held.num c.A c.n (c.B k)) (.bool true) = seenV c (k + 1) := by
  funext j
  simp only [upd, seenV, Held.seen, h, Bool.true_and]
  by_cases e : j = Held.num c.A c.n (c.B k)
  · rw [if_pos e]; subst e; simp
  · rw [if_neg e]
    have : (Held.num c.A c.n (c.B k) == j) = false := beq_eq_false_iff_ne.2 (fun h => e h.symm)
    rw [this, Bool.or_false]
theorem seenV_no {c : Hx} {k : Nat} (h : Held.isIn c.A c.n (c.B k) = false) : seenV c k = seenV c (k + 1) := by
  funext j
  simp [seenV, Held.seen, h]

/-- what the memory holds in the second loop -/
structure Mem2 (c : Hx) (bI base k : Nat) (v5 v7 : Value) (w : World) : Prop where
  map : MapOk w c.bm c.A c.n
  num : Row w c.bN 3 c.n (numV c.A c.n c.n)
  inB : Row w bI 4 (Held.dc c.A c.n) (seenV c k)
  pair : Pair w base v5 (Held.hB c.A c.B c.n k) v7 (Held.ys c.A c.B c.n k)
  bel : Below c.w0.heap.size c.w0 w
  siz : base ≤ w.heap.size

set_option maxRecDepth 100000 in
set_option maxHeartbeats 2000000 in
theorem loopH2 {c : Hx} (hc : c.Fits) {bI base : Nat} (hNI : c.bN < bI) (hIb : bI < base) {w : World} {a : Act} {Q : Exit → Act → World → Prop}
    (hS : SH2 c bI a) (s5 : slot a 5 = .slice none 0 0) (s7 : slot a 7 = .slice none 0 0) (s55 : slot a 55 = .slice c.bd c.m c.cb) (s56 : slot a 56 = .int .i64 c.m) (s57 : slot a 57 = .int .i64 0)
    (hM : Mem2 c bI base 0 (.slice none 0 0) (.slice none 0 0) w)
    (hQ : ∀ a' w' v5 v7, SH2 c bI a' → slot a' 5 = v5 → slot a' 7 = v7 → Mem2 c bI base c.m v5 v7 w' → Q (.exit 2) a' w') : Wp32 [1, 1, 1, 1, 1, 0, 1, 0] Q a w := by
  unfold Wp32
  conv => arg 2; whnf
  have hm := hc.hm
  refine wp_loop (fun a w => ∃ (k : Nat) (v5 v7 : Value), k ≤ c.m ∧ SH2 c bI a ∧ slot a 5 = v5 ∧ slot a 7 = v7 ∧ slot a 55 = .slice c.bd c.m c.cb ∧ slot a 56 = .int .i64 c.m ∧ slot a 57 = .int .i64 k ∧ Mem2 c bI base k v5 v7 w) (fun a _ => ((c.m : Int) - intOf (slot a 57)).toNat)
    ⟨0, _, _, Nat.zero_le _, hS, s5, s7, s55, s56, s57, hM⟩ ?_
  clear hS s5 s7 s55 s56 s57 hM w a
  rintro a w ⟨k, v5, v7, hk, hS, s5, s7, s55, s56, s57, hM⟩
  have hmu : intOf (slot a 57) = k := by rw [s57]; rfl
  rw [hmu]
  clear hmu
  obtain ⟨i0, hi, hz0, hz1, hz2⟩ := info_parts info3H
  obtain ⟨ok, s4, s6, s8, s9, s14⟩ := hS
  rw [Fr105_of ok]
  generalize slot a = s at *
  unfold Fr105
  simp only [s4, s6, s8, s9, s14, s5, s7, s55, s56, s57]
  clear s4 s6 s8 s9 s14 s5 s7 s55 s56 s57 ok
  by_cases hlt : k < c.m
  · obtain ⟨had, hbl⟩ := hc.lb.at_ (by omega)
    rw [had]
    have g1 : w.cell? ⟨c.bb, c.ob + k, none⟩ = some (.string (c.B k)) := (hM.bel.cell (by exact hbl)).trans (hc.lb.cell k hlt)
    have hlook := hM.map.look (c.B k) (hc.sb k hlt)
    cases hin : Held.isIn c.A c.n (c.B k) with
    | true =>
      rw [hin] at hlook
      have hlt2 := Held.num_lt hin
      have g2 : w.cell? ⟨bI, Held.num c.A c.n (c.B k), none⟩ = some (.bool (Held.seen c.A c.B c.n (Held.num c.A c.n (c.B k)) k)) := hM.inB.cell _ hlt2
      have g3 := hM.inB.free (Held.num c.A c.n (c.B k))
      have e1 : Held.hB c.A c.B c.n (k + 1) = Held.hB c.A c.B c.n k ++ [(Held.num c.A c.n (c.B k) : Int)] := Held.acc_yes hin
      have e2 : Held.ys c.A c.B c.n (k + 1) = Held.ys c.A c.B c.n k ++ [(k : Int)] := Held.acc_yes hin
      have l1 : (Held.hB c.A c.B c.n k).length ≤ k := Held.acc_len _ _ _
      have l2 : (Held.ys c.A c.B c.n k).length ≤ k := Held.acc_len _ _ _
      have hz := hM.siz
      have hNm := hc.m1
      have hm0 := hc.m0
      have hp := hM.pair.setBelow (a := ⟨bI, Held.num c.A c.n (c.B k), none⟩) hIb (.bool true)
      have hmap := hM.map.setCell (a := ⟨bI, Held.num c.A c.n (c.B k), none⟩) (by show c.bm ≠ bI; omega) (.bool true)
      have hnum := hM.num.other ⟨bI, Held.num c.A c.n (c.B k), none⟩ (.bool true) (by show c.bN ≠ bI; omega)
      have hinB : Row (w.setCell ⟨bI, Held.num c.A c.n (c.B k), none⟩ (.bool true)) bI 4 (Held.dc c.A c.n) (seenV c (k + 1)) := by
        have := hM.inB.set (Held.num c.A c.n (c.B k)) (.bool true); rw [seenV_yes hin] at this; exact this
      have hbel := hM.bel.setCell (p := ⟨bI, Held.num c.A c.n (c.B k), none⟩) (by show c.w0.heap.size ≤ bI; omega) (.bool true)
      have hfin : Hid (∀ (o1 o2 : Obj) (w1 w2 : World) (v5' v7' : Value), ((w.setCell ⟨bI, Held.num c.A c.n (c.B k), none⟩ (.bool true)).alloc o1).grownBy w1 v5.ownBlock →
          w1.ownsRow base 3 1 v5' ((Held.hB c.A c.B c.n k).length + 1) ((Held.hB c.A c.B c.n k).map (Value.int .i64) ++ [.int .i64 (Held.num c.A c.n (c.B k))]) → (v5'.ownBlock = v5.ownBlock ∨ v5'.ownBlock = some ((w.setCell ⟨bI, Held.num c.A c.n (c.B k), none⟩ (.bool true)).alloc o1).heap.size) →
          (w1.alloc o2).grownBy w2 v7.ownBlock → w2.ownsRow base 3 1 v7' ((Held.ys c.A c.B c.n k).length + 1) ((Held.ys c.A c.B c.n k).map (Value.int .i64) ++ [.int .i64 k]) → (v7'.ownBlock = v7.ownBlock ∨ v7'.ownBlock = some (w1.alloc o2).heap.size) →
          Mem2 c bI base (k + 1) v5' v7' w2) := by
        intro o1 o2 w1 w2 v5' v7' a1 a2 a3 b1 b2 b3
        have hpair := hp.pushed rfl a1 a2 a3 rfl b1 b2 b3
        have sz1 : (w.setCell ⟨bI, Held.num c.A c.n (c.B k), none⟩ (.bool true)).heap.size = w.heap.size := by simp
        have q5 : ∀ j, v5.ownBlock = some j → base ≤ j := fun j e => (hp.o1.lt j e).1
        have q7 : ∀ j, v7.ownBlock = some j → base ≤ j := fun j e => (hp.o2.lt j e).1
        have n5 : ∀ j, j < base → some j ≠ v5.ownBlock := fun j hj e => by have := q5 j e.symm; omega
        have n7 : ∀ j, j < base → some j ≠ v7.ownBlock := fun j hj e => by have := q7 j e.symm; omega
        have gs1 := a1.size
        have gs2 := b1.size
        have t1 : ∀ (W : World) (o : Obj), (W.alloc o).heap.size = W.heap.size + 1 := fun W o => by simp
        rw [t1] at gs1 gs2
        refine ⟨?_, ?_, ?_, ?_, ?_, by omega⟩
        · exact (((hmap.kept (World.grownBy_alloc _ o1 none) (by simp)).kept a1 (n5 _ (by omega))).kept (World.grownBy_alloc _ o2 none) (by simp)).kept b1 (n7 _ (by omega))
        · exact (((hnum.alloc o1).grown a1 (n5 _ (by omega))).alloc o2).grown b1 (n7 _ (by omega))
        · exact (((hinB.alloc o1).grown a1 (n5 _ hIb)).alloc o2).grown b1 (n7 _ hIb)
        · rw [e1, e2]; exact hpair
        · refine Below.grown (Below.alloc (Below.grown (Below.alloc hbel (by omega) o1) a1 (by rw [t1]; omega) (fun j e => by have := q5 j e; omega)) (by omega) o2) b1 (by rw [t1]; omega) (fun j e => by have := q7 j e; omega)
      have p1 : (w.setCell ⟨bI, Held.num c.A c.n (c.B k), none⟩ (.bool true)).ownsRow base 3 1 v5 (Held.hB c.A c.B c.n k).length ((Held.hB c.A c.B c.n k).map (Value.int .i64)) := hp.o1
      have p2 : (w.setCell ⟨bI, Held.num c.A c.n (c.B k), none⟩ (.bool true)).ownsRow base 3 1 v7 (Held.ys c.A c.B c.n k).length ((Held.ys c.A c.B c.n k).map (Value.int .i64)) := hp.o2
      have ap := hp.ap'
      clear hM hp hmap hnum hinB hbel hin e1 e2
      generalize Held.hB c.A c.B c.n k = L1 at *
      generalize Held.ys c.A c.B c.n k = L2 at *
      generalize Held.num c.A c.n (c.B k) = z at *
      have hdc := Held.dc_le c.A c.n
      have hcn := hc.hn
      go_wp2_with (first
        | (at_builtin; refine wpList_append_own_at _ rfl (.tmp 72) (.tmp 74) 30 rfl base 3 i0 (.int .i64 0) 1 8 Try.underlying30 hi hz0 hz1 hz2 rfl (by decide) v5 L1.length _ rfl (p1.alloc _) ⟨w.heap.size, 0, none⟩ 1 1 [.int .i64 z] rfl rfl (cell_one_at _ _ (by simp) _ _) (ints_oneCell .i64 [(z : Int)]) (by unfold maxLen; omega) (by omega) (by simp; omega) ?_; intro v5' w1 hown1 hgrow1 hnil1 hloc1; have p2' := (p2.alloc _).kept hgrow1 ap; have hs1 := hgrow1.size)
        | (at_builtin; refine wpList_append_own_at _ rfl (.tmp 76) (.tmp 78) 30 rfl base 3 i0 (.int .i64 0) 1 8 Try.underlying30 hi hz0 hz1 hz2 rfl (by decide) v7 L2.length _ rfl (p2'.alloc _) ⟨w1.heap.size, 0, none⟩ 1 1 [.int .i64 k] rfl rfl (cell_one_at _ _ (by simp) _ _) (ints_oneCell .i64 [(k : Int)]) (by unfold maxLen; omega) (by omega) (by simp; simp at hs1; omega) ?_; intro v7' w2 hown2 hgrow2 hnil2 hloc2))
      refine ⟨⟨k + 1, v5', v7', by omega, ⟨⟨rfl, rfl⟩, rfl, rfl, rfl, rfl, rfl⟩, rfl, rfl, rfl, rfl, rfl, hfin.out _ _ _ _ _ _ hgrow1 hown1 hloc1 hgrow2 hown2 hloc2⟩, ?_⟩
      · show ((c.m : Int) - intOf (Value.int .i64 ((k : Int) + 1))).toNat < _
        simp only [intOf]
        omega
    | false =>
      rw [hin] at hlook
      have e1 : Held.hB c.A c.B c.n (k + 1) = Held.hB c.A c.B c.n k := Held.acc_no hin
      have e2 : Held.ys c.A c.B c.n (k + 1) = Held.ys c.A c.B c.n k := Held.acc_no hin
      have hM' : Mem2 c bI base (k + 1) v5 v7 w := ⟨hM.map, hM.num, by have := hM.inB; rw [seenV_no hin] at this; exact this, by rw [e1, e2]; exact hM.pair, hM.bel, hM.siz⟩
      clear e1 e2 hM hin hi hz0 hz1 hz2
      go_wp2
      refine ⟨⟨k + 1, v5, v7, by omega, ⟨⟨rfl, rfl⟩, rfl, rfl, rfl, rfl, rfl⟩, rfl, rfl, rfl, rfl, rfl, hM'⟩, ?_⟩
      · show ((c.m : Int) - intOf (Value.int .i64 ((k : Int) + 1))).toNat < _
        simp only [intOf]
        omega
  · obtain rfl : k = c.m := by omega
    clear hi hz0 hz1 hz2
    go_wp2
    exact hQ _ _ _ _ ⟨⟨rfl, rfl⟩, rfl, rfl, rfl, rfl, rfl⟩ rfl rfl hM

end Go.Proofs.Qxb6601047a
