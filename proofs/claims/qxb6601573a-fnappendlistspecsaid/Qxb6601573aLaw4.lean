/-
  The walk of FnAppendListSpec (4).
-/
import Derived.Test.Qxb6601573aTok
import Derived.Test.Qxb6601573aLaw3
namespace Go.Proofs.Qxb6601573a
open Go.RowKit
set_option linter.unusedSimpArgs false
set_option linter.unusedVariables false

theorem tok_buf (v : Value) (av : Option Addr) (bv ov nv cv : Nat) (l lv : List Int) (key : ByteArray) (w : World) (hB : Buf w v l) (hn : l.length ≤ 16777216) (hk : key.size ≤ 16777216) (hv : nv ≤ 16777216) (hV : Byts w av bv ov nv lv) :
    Calls Try.prog 15 #[v, .string key, .slice av nv cv] w (Fresh (tok l key lv) w) := by
  obtain ⟨ad, g, c, rfl, hb, _, _, _⟩ := hB.byts
  exact tok_any ad av g 0 _ c bv ov nv cv l lv key w hn hk hv hb hV

theorem cut_byts {w : World} {g m N : Nat} {A : Nat → ByteArray} (hp : 0 < m) (hN : N = tot A m + m) (h : Row w g 5 N (mixB (cm A m) N)) : Byts w (some ⟨g, 0, none⟩) g 0 (N - 1) (joined A m) := by
  obtain ⟨k, rfl⟩ : ∃ k, m = k + 1 := ⟨m - 1, by omega⟩
  have h1 := cm_length A (k + 1)
  have h2 := congrArg List.length (cm_joined A k)
  rw [List.length_append, h1] at h2
  simp only [List.length_cons, List.length_nil] at h2
  refine ⟨by omega, fun _ => rfl, fun i hi => ?_⟩
  rw [Nat.zero_add, h.cell i (by omega)]
  simp only [mixB, if_pos (show i < N by omega)]
  rw [cm_joined]
  simp [List.getD, List.getElem?_append, show i < (joined A (k + 1)).length by omega]

set_option maxHeartbeats 4000000 in
theorem law4 (ad al : Option Addr) (b off n c bl ol m d : Nat) (l : List Int) (key : ByteArray) (A : Nat → ByteArray) (w : World) (hn : n ≤ maxLen) (hk : key.size ≤ maxLen) (hm : m ≤ maxLen) (hA : ∀ i, i < m → (A i).size ≤ maxLen)
    (hL : Byts w ad b off n l) (hz : ad = none → n = 0 ∧ c = 0) (hS : Strs w al bl ol m A) (hzS : al = none → m = 0 ∧ d = 0) :
    Calls Try.prog 4 #[.slice ad n c, .string key, .slice al m d] w fun e w' => e = .returned (.bool true) ∧ Below w.heap.size w w' := by
  by_cases hs : n ≤ 1048576 ∧ key.size ≤ 1048576 ∧ m ≤ 65536
  · obtain ⟨hs1, hs2, hs3⟩ := hs
    have hll := hL.len
    go_enter Try.func4, Try.ntmps4
    go_wp2_with fail
    refine (zz12_any ad al n c bl ol m d key A w hn hk hm hS hA).mono ?_
    rintro e w' ⟨⟨bb, rfl⟩, rfl⟩
    cases bb with
    | false =>
      go_wp2_with fail
      go_ret
      exact ⟨rfl, Below.refl _ _⟩
    | true =>
      go_wp2_with fail
      refine (listBytes_any ad al n c bl ol m d key A w hs1 hs2 hs3 hS hA).mono ?_
      rintro e w' ⟨⟨t, rfl, ht, ht2⟩, rfl⟩
      by_cases hbig : 1048576 < t
      · clear ht
        go_wp2_with fail
        go_ret
        exact ⟨rfl, Below.refl _ _⟩
      · have hsum := ht (by omega)
        clear ht
        go_wp2_with fail
        refine (clone_any ad b off n c l w (by omega) hL hz).mono ?_
        rintro e w1 ⟨v0, rfl, hB0, hf0, hb1⟩
        have hS1 : Strs w1 al bl ol m A := ⟨hS.at_, fun i hi => by
          have hc := hS.cell i hi
          exact (hb1.cell (p := ⟨bl, ol + i, none⟩) (World.block_lt_of_cell? w ⟨bl, ol + i, none⟩ hc)).trans hc⟩
        go_wp2_with fail
        refine (cloneS_any al bl ol m d A w1 hs3 hS1 hzS).mono ?_
        rintro e w2 ⟨al2, rfl, hS2, hb2⟩
        have hB2 := hB0.below hb2
        go_wp2_with fail
        refine (clone_buf v0 l w2 hB2 (by omega)).mono ?_
        rintro e w3 ⟨vw, rfl, hBw, hfw, hb3⟩
        have hB3 := hB2.below hb3
        have s1 := hb1.size
        have s2 := hb2.size
        have s3 := hb3.size
        have p3 : Below w.heap.size w w3 := (hb1.trans (hb2.mono (by omega))).trans (hb3.mono (by omega))
        have hlt2 := hB0.lt
        by_cases hm0 : m = 0
        · subst hm0
          have HC : Hid (Calls Try.prog 10 #[v0, .string key, .slice al2 0 0] w3 (Gives v0 l w3)) := list_none v0 l key al2 0 w3 hB3
          go_wp2_with fail
          refine HC.out.mono ?_
          rintro e w4 ⟨vg, rfl, hBg, hEg⟩
          have hBw4 := hBw.keep hEg.grown (blocks_ne' hfw hB2.lt)
          have P4 : Hid (Below w.heap.size w w4) := p3.grown hEg.grown (by omega) (fun k h => hf0 k h)
          clear hEg p3
          go_wp2_with fail
          refine (same_buf vg vw l w4 (by omega) hBg hBw4).mono ?_
          rintro e w5 ⟨rfl, q, rfl⟩
          go_wp2_with fail
          go_ret
          exact ⟨rfl, ⟨P4.out.os, P4.out.tape, P4.out.output, P4.out.size, P4.out.block⟩⟩
        · have hp : 0 < m := by omega
          obtain rfl := hS2.at_ hp
          have hlt1 : w1.heap.size < w2.heap.size := World.block_lt_of_cell? w2 ⟨w1.heap.size, 0 + 0, none⟩ (hS2.cell 0 hp)
          have hS3 : Strs w3 (some ⟨w1.heap.size, 0, none⟩) w1.heap.size 0 m A := ⟨hS2.at_, fun i hi => (hb3.cell (p := ⟨w1.heap.size, 0 + i, none⟩) (by exact hlt1)).trans (hS2.cell i hi)⟩
          have hjt := joined_tot A m
          go_wp2_with fail
          refine (join_any _ w1.heap.size 0 m m A w3 hs3 hp hS3 (by omega)).mono ?_
          rintro e w4 ⟨rfl, hrow, hb4⟩
          have hV := cut_byts hp rfl hrow
          have hB4 := hB3.below hb4
          have hS4 : Strs w4 (some ⟨w1.heap.size, 0, none⟩) w1.heap.size 0 m A := ⟨hS3.at_, fun i hi => (hb4.cell (p := ⟨w1.heap.size, 0 + i, none⟩) (show w1.heap.size < w3.heap.size by omega)).trans (hS3.cell i hi)⟩
          have HK : Hid (Calls Try.prog 15 #[v0, .string key, .slice (some ⟨w3.heap.size, 0, none⟩) (tot A m + m - 1) (tot A m + m)] w4 (Fresh (tok l key (joined A m)) w4)) :=
            tok_buf v0 _ w3.heap.size 0 _ _ l (joined A m) key w4 hB4 (by omega) (by omega) (by omega) hV
          go_wp2_with fail
          refine HK.out.mono ?_
          rintro e w5 ⟨vt, rfl, hBt, hft, hb5⟩
          have s4 := hb4.size
          have s5 := hb5.size
          have hB5 := hB4.below hb5
          have hS5 : Strs w5 (some ⟨w1.heap.size, 0, none⟩) w1.heap.size 0 m A := ⟨hS4.at_, fun i hi => (hb5.cell (p := ⟨w1.heap.size, 0 + i, none⟩) (show w1.heap.size < w4.heap.size by omega)).trans (hS4.cell i hi)⟩
          have HC : Hid (Calls Try.prog 10 #[v0, .string key, .slice (some ⟨w1.heap.size, 0, none⟩) m m] w5 (Gives v0 (keyed l key ++ joined A m) w5)) :=
            list_some v0 l key _ w1.heap.size 0 m m A w5 hB5 (by omega) (by omega) hS5 (fun h => by have := hlt2 _ h.symm; omega) hp
          go_wp2_with fail
          refine HC.out.mono ?_
          rintro e w6 ⟨vg, rfl, hBg, hEg⟩
          have hBt6 := hBt.keep hEg.grown (blocks_ne' hft hB4.lt)
          rw [tok_keyed] at hBt6
          have P6 : Hid (Below w.heap.size w w6) := ((p3.trans (hb4.mono (by omega))).trans (hb5.mono (by omega))).grown hEg.grown (by omega) (fun k h => hf0 k h)
          have hlen : Hid ((keyed l key ++ joined A m).length ≤ 1099511627776) := by show _ ≤ _; simp only [keyed, List.length_append, bs_length, List.length_cons, List.length_nil]; omega
          clear hEg p3
          go_wp2_with fail
          refine (same_buf vg vt _ w6 hlen.out hBg hBt6).mono ?_
          rintro e w7 ⟨rfl, q, rfl⟩
          go_wp2_with fail
          go_ret
          exact ⟨rfl, ⟨P6.out.os, P6.out.tape, P6.out.output, P6.out.size, P6.out.block⟩⟩
  · go_enter Try.func4, Try.ntmps4
    go_wp2_with fail
    refine (zz12_any ad al n c bl ol m d key A w hn hk hm hS hA).mono ?_
    rintro e w' ⟨⟨bb, rfl⟩, rfl⟩
    unfold maxLen at hn hk hm
    cases bb with
    | false =>
      go_wp2_with fail
      go_ret
      exact ⟨rfl, Below.refl _ _⟩
    | true =>
      have hcase : 1048576 < n ∨ (n ≤ 1048576 ∧ 1048576 < key.size) ∨ (n ≤ 1048576 ∧ key.size ≤ 1048576 ∧ 65536 < m) := by omega
      clear hs
      rcases hcase with h1 | ⟨h1, h2⟩ | ⟨h1, h2, h3⟩
      · go_wp2_with fail
        go_ret
        exact ⟨rfl, Below.refl _ _⟩
      · go_wp2_with fail
        go_ret
        exact ⟨rfl, Below.refl _ _⟩
      · go_wp2_with fail
        go_ret
        exact ⟨rfl, Below.refl _ _⟩
