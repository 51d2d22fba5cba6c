/-
  The walk of FnAppendListSnoc (5).
-/
import Derived.Test.Qxb6601573aLists
import Derived.Test.Qxb6601573aLaw3
import Derived.Deep.RegionWith
namespace Go.Proofs.Qxb6601573a
open Go.RowKit
set_option linter.unusedSimpArgs false
set_option linter.unusedVariables false

theorem Strs.below {w w' : World} {ad : Option Addr} {b off n : Nat} {A : Nat → ByteArray} {B : Nat} (h : Strs w ad b off n A) (hb : Below B w w') (hB : w.heap.size ≤ B) : Strs w' ad b off n A :=
  ⟨h.at_, fun i hi => by
    have hc := h.cell i hi
    have := World.block_lt_of_cell? w ⟨b, off + i, none⟩ hc
    exact (hb.cell (p := ⟨b, off + i, none⟩) (by have : b < w.heap.size := this
                                                 show b < B
                                                 omega)).trans hc⟩
theorem Strs.evo {W w : World} {ad : Option Addr} {b off n : Nat} {A : Nat → ByteArray} {o : Option Nat} {v : Value} (h : Strs W ad b off n A) (he : Evo o W w v) (hne : some b ≠ o) : Strs w ad b off n A :=
  ⟨h.at_, fun i hi => he.cell (h.cell i hi) hne⟩
theorem Strs.drewN {w : World} {ad : Option Addr} {b off n : Nat} {A : Nat → ByteArray} (h : Strs w ad b off n A) (q : Nat) : Strs (w.drewN q) ad b off n A := ⟨h.at_, h.cell⟩
theorem Strs.less {w : World} {ad : Option Addr} {b off n m : Nat} {A : Nat → ByteArray} (h : Strs w ad b off n A) (hm : m ≤ n) : Strs w ad b off m A := ⟨fun hp => h.at_ (by omega), fun i hi => h.cell i (by omega)⟩

theorem Buf.form {w : World} {v : Value} {l : List Int} (h : Buf w v l) (hp : 0 < l.length) :
    ∃ g c, v = .slice (some ⟨g, 0, none⟩) l.length c ∧ l.length ≤ c ∧ c ≤ maxLen ∧ ∀ i, i < l.length → w.cell? ⟨g, i, none⟩ = some (.int .u8 (l.getD i 0)) := by
  obtain ⟨h1, h2⟩ := h
  rcases h2 with ⟨h2, h3⟩ | ⟨g, cap, cur, hv, _, hh, hnc, hcm, hs, ht⟩
  · omega
  · refine ⟨g, cap, hv, hnc, hcm, fun i hi => ?_⟩
    rw [cell_of_row w g i cur 5 (0, 0) hh]
    have : (cur.toList.take (l.length * 1))[i]? = some (.int .u8 (l.getD i 0)) := by
      rw [ht]
      simp [u8s, List.getD, hi]
    rw [List.getElem?_take, if_pos (by omega)] at this
    simpa using this

/-- the line for the whole list: that for all but the last, a comma, the last -/
theorem long_cells {w : World} {g : Nat} {S : List Int} {x : ByteArray} (hc : ∀ i, i < (S ++ 44 :: bs x).length → w.cell? ⟨g, i, none⟩ = some (.int .u8 ((S ++ 44 :: bs x).getD i 0))) :
    Byts w (some ⟨g, 0, none⟩) g 0 S.length S ∧ w.cell? ⟨g, S.length, none⟩ = some (.int .u8 44) ∧ ∀ ad, (0 < x.size → ad = some ⟨g, S.length + 1, none⟩) → Byts w ad g (S.length + 1) x.size (bs x) := by
  have hl : (S ++ 44 :: bs x).length = S.length + 1 + x.size := by simp [bs_length]; omega
  refine ⟨⟨rfl, fun _ => rfl, fun i hi => ?_⟩, ?_, fun ad had => ⟨bs_length x, had, fun i hi => ?_⟩⟩
  · rw [Nat.zero_add, hc i (by omega)]
    simp [List.getD, List.getElem?_append, hi]
  · rw [hc _ (by omega)]
    simp [List.getD, List.getElem?_append]
  · rw [hc _ (by omega)]
    simp only [List.getD_eq_getElem?_getD, List.getElem?_append, if_neg (show ¬ S.length + 1 + i < S.length by omega)]
    rw [show S.length + 1 + i - S.length = i + 1 by omega]
    simp

set_option maxHeartbeats 4000000 in
theorem law5 (ad al : Option Addr) (b off n c bl ol m d : Nat) (l : List Int) (key : ByteArray) (A : Nat → ByteArray) (w : World) (hn : n ≤ maxLen) (hk : key.size ≤ maxLen) (hm : m ≤ maxLen) (hA : ∀ i, i < m → (A i).size ≤ maxLen)
    (hL : Byts w ad b off n l) (hz : ad = none → n = 0 ∧ c = 0) (hS : Strs w al bl ol m A) (hzS : al = none → m = 0 ∧ d = 0) :
    Calls Try.prog 5 #[.slice ad n c, .string key, .slice al m d] w fun e w' => e = .returned (.bool true) ∧ Below w.heap.size w w' := by
  by_cases hs : n ≤ 1048576 ∧ key.size ≤ 1048576 ∧ m ≤ 65536
  · obtain ⟨hs1, hs2, hs3⟩ := hs
    have hll := hL.len
    go_enter Try.func5, Try.ntmps5
    go_wp2_with fail
    refine (zz17_any ad al n c bl ol m d key A w hn hk hm hS hA).mono ?_
    rintro e w' ⟨⟨bb, rfl⟩, rfl⟩
    cases bb with
    | false =>
      go_wp2_with fail
      go_ret
      exact ⟨rfl, Below.refl _ _⟩
    | true =>
      go_wp2_with fail
      refine (listBytes_any ad al n c bl ol m d key A w hs1 hs2 hs3 hS hA).mono ?_
      rintro e w' ⟨⟨t, rfl, ht, ht2⟩, rfl⟩
      by_cases hbig : 1048576 < t
      · clear ht
        go_wp2_with fail
        go_ret
        exact ⟨rfl, Below.refl _ _⟩
      · have hsum := ht (by omega)
        clear ht
        by_cases h2 : m < 2
        · go_wp2_with fail
          go_ret
          exact ⟨rfl, Below.refl _ _⟩
        · go_wp2_with fail
          refine (clone_any ad b off n c l w (by omega) hL hz).mono ?_
          rintro e w1 ⟨v0, rfl, hB0, hf0, hb1⟩
          have hS1 := hS.below hb1 (Nat.le_refl _)
          go_wp2_with fail
          refine (cloneS_any al bl ol m d A w1 hs3 hS1 hzS).mono ?_
          rintro e w2 ⟨al2, rfl, hS2, hb2⟩
          obtain rfl := hS2.at_ (by omega)
          have hB0' := hB0.below hb2
          have g1 := hS2.cell (m - 1) (by omega)
          rw [Nat.zero_add] at g1
          go_wp2_with fail
          have hlen1 : l.length + key.size + 2 + (joined A (m - 1)).length ≤ 1099511627776 := by
            have h1 := joined_tot A (m - 1)
            have h2 := tot_le A (m - 1) 1
            rw [show m - 1 + 1 = m by omega] at h2
            omega
          have H1 : ∀ W : World, Buf W v0 l → Calls Try.prog 8 #[v0] W (Fresh l W) := fun W h => clone_buf v0 l W h (by omega)
          have H2 : ∀ (v : Value) (W : World), Buf W v l → Strs W (some ⟨w1.heap.size, 0, none⟩) w1.heap.size 0 (m - 1) A → some w1.heap.size ≠ v.ownBlock → Calls Try.prog 10 #[v, .string key, .slice (some ⟨w1.heap.size, 0, none⟩) (m - 1) m] W (Gives v (keyed l key ++ joined A (m - 1)) W) :=
            fun v W h1 h2 h3 => list_some v l key _ w1.heap.size 0 (m - 1) m A W h1 (by omega) hlen1 h2 h3 (by omega)
          have hbl : w1.heap.size < w2.heap.size := World.block_lt_of_cell? w2 ⟨w1.heap.size, m - 1, none⟩ g1
          have hcell : ∀ i, i < m - 1 → w2.cell? ⟨w1.heap.size, 0 + i, none⟩ = some (.string (A i)) := fun i hi => hS2.cell i (by omega)
          have hm2 : ¬ ((m : Int) < m - 1) := by omega
          have hm3 : 1 ≤ (m : Int) := by omega
          have hm4 : IntKind.i64.wrap ((m : Int) - 1) = (m : Int) - 1 := by rw [IntKind.wrap_i64]; omega
          go_region_with (first
            | (go_at_call 8; refine (H1 _ (by exact hB0')).mono ?_; rintro e w3 ⟨va, rfl, hBa, hfa, hb3⟩)
            | (go_at_call 10; refine (H2 va _ (by exact hBa) ⟨fun _ => rfl, fun i hi => (hb3.cell (p := ⟨w1.heap.size, 0 + i, none⟩) (by exact hbl)).trans (hcell i hi)⟩ (by intro h; have h9 : w2.heap.size ≤ w1.heap.size := hfa _ h.symm; omega)).mono ?_; rintro e w4 ⟨vs, rfl, hBs, hEs⟩))
          all_goals
            have hB3 : Buf w3 v0 l := Buf.below (w := w2.drew) hB0' hb3
            have s3 : w2.heap.size ≤ w3.heap.size := hb3.size
            have hfa' : ∀ k, va.ownBlock = some k → w2.heap.size ≤ k := hfa
            have hB4 : Buf w4 v0 l := hB3.keep hEs.grown (blocks_ne hB0'.lt hfa')
            have hS3 : Strs w3 (some ⟨w1.heap.size, 0, none⟩) w1.heap.size 0 m A := ⟨fun _ => rfl, fun i hi => (hb3.cell (p := ⟨w1.heap.size, 0 + i, none⟩) (by exact hbl)).trans (hS2.cell i hi)⟩
            have hS4 := hS3.evo hEs (by intro h; have h9 := hfa' _ h.symm; omega)
            have p4 : Below w.heap.size w w4 := by
              have s1 := hb1.size
              have s2 := hb2.size
              have p1 : Below w.heap.size w w2 := hb1.trans (hb2.mono (by omega))
              have p2 : Below w.heap.size w w3 := p1.drew.trans (hb3.mono (by show w.heap.size ≤ w2.heap.size; omega))
              exact p2.grown hEs.grown (by omega) (fun k h => by have := hfa' k h; omega)
            clear hb3 hEs hfa hBa hS3 hb1 hb2
            go_wp2_with fail
            refine (clone_buf v0 l w4 hB4 (by omega)).mono ?_
            rintro e w5 ⟨vb, rfl, hBb, hfb, hb5⟩
            have hS5 := hS4.below hb5 (Nat.le_refl _)
            have hBs5 := hBs.below hb5
            have hlt4 : w1.heap.size < w4.heap.size := World.block_lt_of_cell? w4 ⟨w1.heap.size, 0 + (m - 1), none⟩ (hS4.cell (m - 1) (by omega))
            have H3 := list_some vb l key _ w1.heap.size 0 m m A w5 hBb (by omega) (by have := joined_tot A m; omega) hS5 (by intro h; have h9 := hfb _ h.symm; omega) (by omega)
            have HC : Hid (Calls Try.prog 10 #[vb, .string key, .slice (some ⟨w1.heap.size, 0, none⟩) m m] w5 (Gives vb (keyed l key ++ joined A m) w5)) := H3
            clear H3
            go_wp2_with fail
            refine HC.out.mono ?_
            rintro e w6 ⟨vl, rfl, hBl, hEl⟩
            have hBs6 := hBs5.keep hEl.grown (blocks_ne hBs.lt hfb)
            have p6 : Below w.heap.size w w6 := by
              have s4 := p4.size
              have s5 := hb5.size
              have p5 : Below w.heap.size w w5 := p4.trans (hb5.mono (by omega))
              exact p5.grown hEl.grown (by omega) (fun k h => by have := hfb k h; omega)
            have hLL : keyed l key ++ joined A m = (keyed l key ++ joined A (m - 1)) ++ 44 :: bs (A (m - 1)) := by
              obtain ⟨q, rfl⟩ : ∃ q, m = q + 1 := ⟨m - 1, by omega⟩
              simp [joined, show ¬ q = 0 by omega]
            rw [hLL] at hBl
            have hSp : 0 < (keyed l key ++ joined A (m - 1)).length := by simp [keyed]; omega
            have hSl : (keyed l key ++ joined A (m - 1)).length ≤ 4194304 := by
              have h1 := joined_tot A (m - 1)
              have h2 := tot_le A (m - 1) 1
              rw [show m - 1 + 1 = m by omega] at h2
              simp only [keyed, List.length_append, bs_length, List.length_cons, List.length_nil]
              omega
            have hxs : (A (m - 1)).size ≤ 1048576 := by have := tot_at (A := A) (show m - 1 < m by omega); omega
            have P6 : Hid (Below w.heap.size w w6) := p6
            clear hEl hBs5 hBs hBb hfb hb5 hS5 HC hLL p6 p4 H1 H2 hcell hS4 hB4 hB3 hB0' hB0 hS2 hS1 hf0 hL hS hbl hlen1 hfa' hlt4
            generalize keyed l key ++ joined A (m - 1) = S at *
            generalize A (m - 1) = x at *
            obtain ⟨gs, cs, rfl, hcs, hcsm, hcells⟩ := hBs6.form hSp
            obtain ⟨gl, cl, rfl, hcl, hclm, hcelll⟩ := hBl.form (by simp; omega)
            obtain ⟨hY1, hY2, hY3⟩ := long_cells hcelll
            have hZ1 : Byts w6 (some ⟨gs, 0, none⟩) gs 0 S.length S := ⟨rfl, fun _ => rfl, fun i hi => by rw [Nat.zero_add]; exact hcells i hi⟩
            have hLl : (S ++ 44 :: bs x).length = S.length + 1 + x.size := by simp [bs_length]; omega
            rw [hLl] at hcl ⊢
            have SM : Hid (Calls Try.prog 11 #[.slice (some ⟨gl, 0, none⟩) S.length cl, .slice (some ⟨gs, 0, none⟩) S.length cs] w6 fun e w' => e = .returned (.bool true) ∧ ∃ q, w' = w6.drewN q) :=
              same_any _ _ gl 0 gs 0 S.length cl cs S w6 (by omega) hY1 hZ1
            clear hcells hcelll hBs6 hBl hLl hY1 hZ1
            unfold maxLen at hclm hcsm
            generalize S.length = L at *
            go_wp2_with fail
            refine SM.out.mono ?_
            rintro e w7 ⟨rfl, q, rfl⟩
            have hY4 : (w6.drewN q).cell? ⟨gl, L, none⟩ = some (.int .u8 44) := hY2
            have SS : ∀ ad c, (0 < x.size → ad = some ⟨gl, L + 1, none⟩) → Calls Try.prog 18 #[.slice ad x.size c, .string x] (w6.drewN q) fun e w' => e = .returned (.bool true) ∧ ∃ r, w' = (w6.drewN q).drewN r := fun ad c h => sameStr_any ad gl (L + 1) c x (w6.drewN q) (by omega) ⟨bs_length x, h, (hY3 ad h).cell⟩
            clear SM hY2 hY3
            by_cases hcc : cl = L + 1
            · have hx0 : x.size = 0 := by omega
              have SS1 : Hid (Calls Try.prog 18 #[.slice (some ⟨gl, 0, none⟩) 0 0, .string x] (w6.drewN q) fun e w' => e = .returned (.bool true) ∧ ∃ r, w' = (w6.drewN q).drewN r) := by
                have h9 := SS (some ⟨gl, 0, none⟩) 0 (fun h => by omega)
                rw [hx0] at h9
                exact h9
              clear SS
              subst hcc
              go_wp2_with fail
              refine SS1.out.mono ?_
              rintro e w8 ⟨rfl, r, rfl⟩
              go_wp2_with fail
              go_ret
              exact ⟨rfl, ⟨P6.out.os, P6.out.tape, P6.out.output, P6.out.size, P6.out.block⟩⟩
            · have SS1 : Hid (Calls Try.prog 18 #[.slice (some ⟨gl, L + 1, none⟩) x.size (cl - (L + 1)), .string x] (w6.drewN q) fun e w' => e = .returned (.bool true) ∧ ∃ r, w' = (w6.drewN q).drewN r) := SS _ _ (fun h => rfl)
              clear SS
              go_wp2_with fail
              refine SS1.out.mono ?_
              rintro e w8 ⟨rfl, r, rfl⟩
              go_wp2_with fail
              go_ret
              exact ⟨rfl, ⟨P6.out.os, P6.out.tape, P6.out.output, P6.out.size, P6.out.block⟩⟩
  · go_enter Try.func5, Try.ntmps5
    go_wp2_with fail
    refine (zz17_any ad al n c bl ol m d key A w hn hk hm hS hA).mono ?_
    rintro e w' ⟨⟨bb, rfl⟩, rfl⟩
    unfold maxLen at hn hk hm
    cases bb with
    | false =>
      go_wp2_with fail
      go_ret
      exact ⟨rfl, Below.refl _ _⟩
    | true =>
      have hcase : 1048576 < n ∨ (n ≤ 1048576 ∧ 1048576 < key.size) ∨ (n ≤ 1048576 ∧ key.size ≤ 1048576 ∧ 65536 < m) := by omega
      clear hs
      rcases hcase with h1 | ⟨h1, h2⟩ | ⟨h1, h2, h3⟩
      · go_wp2_with fail
        go_ret
        exact ⟨rfl, Below.refl _ _⟩
      · go_wp2_with fail
        go_ret
        exact ⟨rfl, Below.refl _ _⟩
      · go_wp2_with fail
        go_ret
        exact ⟨rfl, Below.refl _ _⟩
