import Derived.Test.Qxb6601047aHeldL3
namespace Go.Proofs.Qxb6601047a
open Go.RowKit Go.Maps
set_option linter.unusedSimpArgs false
set_option linter.unusedVariables false

theorem info4H : (Try.prog.info? 4).map (fun i => (i.zero, i.size, i.bytes)) = some (some (.bool false), 1, 1) := by kernel_rfl

set_option maxRecDepth 100000 in
set_option maxHeartbeats 1000000 in
theorem r12H {c : Hx} (hc : c.Fits) {w : World} {a : Act} {Q : Exit → Act → World → Prop} (hS : SH1 c a) (hM : MapOk w c.bm c.A c.n)
    (hQ : ∀ a' w', SH2 c w.heap.size a' → slot a' 1 = .slice c.bd c.m c.cb → slot a' 5 = .slice none 0 0 → slot a' 7 = .slice none 0 0 → Row w' w.heap.size 4 (Held.dc c.A c.n) (seenV c 0) → w.grownBy w' none → w.heap.size < w'.heap.size → Q .normal a' w') : Wp32 [1, 1, 1, 1, 0] Q a w := by
  unfold Wp32
  conv => arg 2; whnf
  have hn := hc.hn
  have hdc := Held.dc_le c.A c.n
  have hlen := hM.len 3
  obtain ⟨i0, hi, hz0, hz1, hz2⟩ := info_parts info4H
  obtain ⟨ok, s1, s4, s5, s6, s7, s8, s9⟩ := hS
  rw [Fr105_of ok]
  generalize slot a = s at *
  unfold Fr105
  simp only [s1, s4, s5, s6, s7, s8, s9]
  clear s1 s4 s5 s6 s7 s8 s9 ok
  go_wp2_with (at_make; refine wpList_make_full _ rfl _ _ 46 rfl w.heap.size 4 i0 (.bool false) 1 Try.underlying46 hi hz0 hz1 _ _ _ _ (Held.dc c.A c.n) rfl rfl rfl rfl ?b2 ?b3 (Nat.le_refl _) ?_)
  case b2 => rw [hz2]; omega
  case b3 => unfold maxLen; omega
  intro w' hown hgrow
  rw [toList_madeCells_one] at hown
  have hr : Row w' w.heap.size 4 (Held.dc c.A c.n) (seenV c 0) := Row.of_owns hown (fun i hi => by simp [hi, seenV, Held.seen])
  clear hown hi hz0 hz1 hz2 hlen
  have hlt := hr.lt
  go_wp2
  exact hQ _ _ ⟨⟨rfl, rfl⟩, rfl, rfl, rfl, rfl, rfl⟩ rfl rfl rfl hr hgrow hlt

set_option maxRecDepth 100000 in
set_option maxHeartbeats 1000000 in
theorem r13H {c : Hx} {bI : Nat} {w : World} {a : Act} {Q : Exit → Act → World → Prop} (hS : SH2 c bI a) (s1 : slot a 1 = .slice c.bd c.m c.cb) (s5 : slot a 5 = .slice none 0 0) (s7 : slot a 7 = .slice none 0 0)
    (hQ : ∀ a', SH2 c bI a' → slot a' 5 = .slice none 0 0 → slot a' 7 = .slice none 0 0 → slot a' 55 = .slice c.bd c.m c.cb → slot a' 56 = .int .i64 c.m → slot a' 57 = .int .i64 0 → Q .normal a' w) : Wp32 [1, 1, 1, 1, 1, 0, 0] Q a w := by
  unfold Wp32
  conv => arg 2; whnf
  obtain ⟨ok, s4, s6, s8, s9, s14⟩ := hS
  rw [Fr105_of ok]
  generalize slot a = s at *
  unfold Fr105
  simp only [s4, s6, s8, s9, s14, s1, s5, s7]
  clear s4 s6 s8 s9 s14 s1 s5 s7 ok
  go_wp2
  exact hQ _ ⟨⟨rfl, rfl⟩, rfl, rfl, rfl, rfl, rfl⟩ rfl rfl rfl rfl rfl

set_option maxRecDepth 100000 in
set_option maxHeartbeats 1000000 in
theorem r21H {c : Hx} {bI : Nat} {w : World} {a : Act} {v5 v7 : Value} {Q : Exit → Act → World → Prop} (hS : SH2 c bI a) (s5 : slot a 5 = v5) (s7 : slot a 7 = v7)
    (hQ : ∀ a', SH3 c bI v5 v7 a' → slot a' 4 = .slice none 0 0 → slot a' 6 = .slice none 0 0 → slot a' 81 = .slice (some ⟨c.bN, 0, none⟩) c.n c.n → slot a' 82 = .int .i64 c.n → slot a' 83 = .int .i64 0 → Q .normal a' w) : Wp32 [1, 1, 1, 1, 1, 1, 0, 0] Q a w := by
  unfold Wp32
  conv => arg 2; whnf
  obtain ⟨ok, s4, s6, s8, s9, s14⟩ := hS
  rw [Fr105_of ok]
  generalize slot a = s at *
  unfold Fr105
  simp only [s4, s6, s8, s9, s14, s5, s7]
  clear s4 s6 s8 s9 s14 s5 s7 ok
  go_wp2
  exact hQ _ ⟨⟨rfl, rfl⟩, rfl, rfl, rfl⟩ rfl rfl rfl rfl rfl

/-- all behind the first loop -/
theorem rest32 {c : Hx} (hc : c.Fits) {w : World} {a : Act} (hS : SH1 c a) (hM : MapOk w c.bm c.A c.n) (hR : Row w c.bN 3 c.n (numV c.A c.n c.n)) (hB : Below c.w0.heap.size c.w0 w) :
    Wp32 [1, 1, 1, 1] (bodyPost Try.prog Try.f32 fun e w' => ∃ v4 v5 v6 v7, e = .returned (.tuple #[v4, v5, v6, v7]) ∧ Gives w' c.w0.heap.size c.A c.B c.n c.m v4 v5 v6 v7 ∧ Below c.w0.heap.size c.w0 w') a w := by
  have hNlt := hR.lt
  have hm1 := hc.m1
  have hm0 := hc.m0
  refine wp_mid (fun a' w' => SH2 c w.heap.size a' ∧ slot a' 1 = .slice c.bd c.m c.cb ∧ slot a' 5 = .slice none 0 0 ∧ slot a' 7 = .slice none 0 0 ∧ Mem2 c w.heap.size w'.heap.size 0 (.slice none 0 0) (.slice none 0 0) w' ∧ w.heap.size < w'.heap.size)
    (r12H hc hS hM (fun a' w' h1 h2 h3 h4 h5 h6 h7 => ⟨h1, h2, h3, h4, ⟨hM.kept h6 (by simp), hR.grown h6 (by simp), h5, Pair.start _ _, hB.grown h6 hB.size (fun k e => by cases e), Nat.le_refl _⟩, h7⟩)) ?_
  rintro a1 w1 ⟨hS, s1, s5, s7, hM2, hlt⟩
  refine wp_mid (fun a' w' => ∃ v5 v7, SH2 c w.heap.size a' ∧ slot a' 5 = v5 ∧ slot a' 7 = v7 ∧ Mem2 c w.heap.size w1.heap.size c.m v5 v7 w') ?_ ?_
  · refine wp_mid (fun a' w' => SH2 c w.heap.size a' ∧ slot a' 5 = .slice none 0 0 ∧ slot a' 7 = .slice none 0 0 ∧ slot a' 55 = .slice c.bd c.m c.cb ∧ slot a' 56 = .int .i64 c.m ∧ slot a' 57 = .int .i64 0 ∧ Mem2 c w.heap.size w1.heap.size 0 (.slice none 0 0) (.slice none 0 0) w')
      (r13H hS s1 s5 s7 (fun a' h1 h2 h3 h4 h5 h6 => ⟨h1, h2, h3, h4, h5, h6, hM2⟩)) ?_
    rintro a2 w2 ⟨hS, s5, s7, s55, s56, s57, hM2⟩
    exact wp_block (loopH2 hc hNlt hlt hS s5 s7 s55 s56 s57 hM2 (fun a' w' v5 v7 h1 h2 h3 h4 => ⟨v5, v7, h1, h2, h3, h4⟩))
  rintro a2 w2 ⟨v5, v7, hS, s5, s7, hM2⟩
  have hM3 : Mem3 c w.heap.size w1.heap.size w2.heap.size 0 (.slice none 0 0) v5 (.slice none 0 0) v7 w2 :=
    ⟨hM2.num, hM2.inB, Pair.start _ _, hM2.pair.o1, hM2.pair.o2, fun j e => (hM2.pair.o1.lt j e).2, fun j e => (hM2.pair.o2.lt j e).2, hM2.bel, Nat.le_refl _⟩
  have hbb : w1.heap.size ≤ w2.heap.size := hM2.siz
  refine wp_mid (fun a' w' => ∃ v4 v6, SH3 c w.heap.size v5 v7 a' ∧ slot a' 4 = v4 ∧ slot a' 6 = v6 ∧ Mem3 c w.heap.size w1.heap.size w2.heap.size c.n v4 v5 v6 v7 w') ?_ ?_
  · refine wp_mid (fun a' w' => SH3 c w.heap.size v5 v7 a' ∧ slot a' 4 = .slice none 0 0 ∧ slot a' 6 = .slice none 0 0 ∧ slot a' 81 = .slice (some ⟨c.bN, 0, none⟩) c.n c.n ∧ slot a' 82 = .int .i64 c.n ∧ slot a' 83 = .int .i64 0 ∧ Mem3 c w.heap.size w1.heap.size w2.heap.size 0 (.slice none 0 0) v5 (.slice none 0 0) v7 w')
      (r21H hS s5 s7 (fun a' h1 h2 h3 h4 h5 h6 => ⟨h1, h2, h3, h4, h5, h6, hM3⟩)) ?_
    rintro a3 w3 ⟨hS, s4, s6, s81, s82, s83, hM3⟩
    exact wp_block (loopH3 hc hNlt hlt hbb hS s4 s6 s81 s82 s83 hM3 (fun a' w' v4 v6 h1 h2 h3 h4 => ⟨v4, v6, h1, h2, h3, h4⟩))
  rintro a3 w3 ⟨v4, v6, hS, s4, s6, hM3⟩
  have lower : ∀ {W : World} {b b' : Nat} {v : Value} {l : List Int}, OwnS W b v l → b' ≤ b → OwnS W b' v l := by
    intro W b b' v l h hb
    obtain ⟨h1, h2⟩ := h
    refine ⟨h1, ?_⟩
    rcases h2 with h2 | ⟨g, cap, cur, e1, e2, r⟩
    · exact .inl h2
    · exact .inr ⟨g, cap, cur, e1, Nat.le_trans hb e2, r⟩
  exact retH hS.ok s4 hS.s5 s6 hS.s7 ⟨v4, v5, v6, v7, rfl, ⟨lower hM3.pair.o1 (by omega), lower hM3.o5 (by omega), lower hM3.pair.o2 (by omega), lower hM3.o7 (by omega)⟩, hM3.bel⟩

set_option maxRecDepth 100000 in
set_option maxHeartbeats 1000000 in
theorem held_any (ad bd : Option Addr) (ba oa n ca bb ob m cb : Nat) (A B : Nat → ByteArray) (w : World) (hn : n ≤ 4096) (hm : m ≤ 4096) (la : Lines w ad ba oa n A) (lb : Lines w bd bb ob m B)
    (sa : ∀ i, i < n → (A i).size ≤ maxLen) (sb : ∀ i, i < m → (B i).size ≤ maxLen) :
    Calls Try.prog 32 #[.slice ad n ca, .slice bd m cb] w fun e w' => ∃ v4 v5 v6 v7, e = .returned (.tuple #[v4, v5, v6, v7]) ∧ Gives w' w.heap.size A B n m v4 v5 v6 v7 ∧ Below w.heap.size w w' := by
  have hmk := make44 n hn
  obtain ⟨i0, hi, hz0, hz1, hz2⟩ := info_parts info3H
  have hc : Hx.Fits ⟨ad, bd, ba, oa, n, ca, bb, ob, m, cb, w.heap.size, w.heap.size + 1, A, B, w⟩ := ⟨hn, hm, la, lb, sa, sb, Nat.le_refl _, Nat.lt_succ_self _⟩
  go_enter Try.func32, Try.ntmps32
  go_wp2_with (at_make; refine wpList_make_full _ rfl _ _ 30 rfl w.heap.size 3 i0 (.int .i64 0) 1 Try.underlying30 hi hz0 hz1 _ _ _ _ n rfl rfl rfl rfl ?b2 ?b3 (by simp) ?_)
  case b2 => rw [hz2]; omega
  case b3 => unfold maxLen; omega
  intro w1 hown hgrow
  have sz : (w.alloc (.map #[] 0)).heap.size = w.heap.size + 1 := by simp
  have hr : Row w1 (w.heap.size + 1) 3 n (numV A n 0) := by
    rw [toList_madeCells_one] at hown
    rw [← sz]
    refine Row.of_owns (base := w.heap.size) (xs := List.replicate n (.int .i64 0)) ?_ (fun i hi => by simp [hi, numV])
    rw [sz]
    exact hown
  have hm1 : MapOk w1 w.heap.size A 0 := (MapOk.made w A).kept hgrow (by simp)
  have hb1 : Below w.heap.size w w1 := ((Below.refl _ _).alloc (Nat.le_refl _) _).grown hgrow (by rw [sz]; omega) (fun k e => by cases e)
  clear hown hgrow hi hz0 hz1 hz2 hmk
  go_wp2_with fail
  refine loopH1 (c := ⟨ad, bd, ba, oa, n, ca, bb, ob, m, cb, w.heap.size, w.heap.size + 1, A, B, w⟩) hc ⟨⟨rfl, rfl⟩, rfl, rfl, rfl, rfl, rfl, rfl, rfl⟩ rfl rfl rfl hm1 hr hb1 (fun a' w' h1 h2 h3 h4 => ?_)
  simp only [Exit.inBlock, if_true, Exit.then]
  go_step
  exact rest32 hc h1 h2 h3 h4

end Go.Proofs.Qxb6601047a
