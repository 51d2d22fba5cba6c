/-
  The walk of FnAppendListSplitsBack (6).
-/
import Derived.Test.Qxb6601573aSp2
namespace Go.Proofs.Qxb6601573a
open Go.RowKit
set_option linter.unusedSimpArgs false
set_option linter.unusedVariables false

/-- what is known of the line that was written: its cells, by part -/
structure Parts (w : World) (gg n J m : Nat) (l : List Int) (key : ByteArray) (A : Nat → ByteArray) : Prop where
  front : Byts w (some ⟨gg, 0, none⟩) gg 0 n l
  space : w.cell? ⟨gg, n, none⟩ = some (.int .u8 32)
  key_ : ∀ i (h : i < key.size), w.cell? ⟨gg, n + 1 + i, none⟩ = some (.int .u8 (key[i].toNat : Int))
  eq : w.cell? ⟨gg, n + 1 + key.size, none⟩ = some (.int .u8 61)
  item : ∀ i r, i < m → (h : r < (A i).size) → w.cell? ⟨gg, n + 1 + key.size + 1 + (st A i + r), none⟩ = some (.int .u8 ((A i)[r].toNat : Int))
  comma : ∀ i, i + 1 < m → w.cell? ⟨gg, n + 1 + key.size + 1 + (st A i + (A i).size), none⟩ = some (.int .u8 44)

theorem parts_of {w : World} {gg m : Nat} {l : List Int} {key : ByteArray} {A : Nat → ByteArray}
    (hc : ∀ i, i < (tok l key (joined A m)).length → w.cell? ⟨gg, i, none⟩ = some (.int .u8 ((tok l key (joined A m)).getD i 0))) : Parts w gg l.length (joined A m).length m l key A := by
  have hl := tok_length l key (joined A m)
  refine ⟨⟨rfl, fun _ => rfl, fun i hi => ?_⟩, ?_, fun i h => ?_, ?_, fun i r hi h => ?_, fun i hi => ?_⟩
  · rw [Nat.zero_add, hc i (by omega), tok1 hi]
  · rw [hc _ (by omega), tok2]
  · rw [hc _ (by omega), tok3 h]
  · rw [hc _ (by omega), tok4]
  · have h1 := st_end A i
    have h2 := joined_len_le (A := A) (show i + 1 ≤ m by omega)
    rw [hc _ (by omega), tok5 (by omega), joined_byte hi h, bs_getD h]
  · have h1 := st_end A i
    have h2 := joined_len_le (A := A) (show i + 1 + 1 ≤ m by omega)
    have h3 := st_next A i
    have h4 := st_end A (i + 1)
    rw [hc _ (by omega), tok5 (by omega), h1, joined_comma hi]

set_option maxRecDepth 100000 in
set_option maxHeartbeats 4000000 in
theorem law6 (ad al : Option Addr) (b off n c bl ol m d : Nat) (l : List Int) (key : ByteArray) (A : Nat → ByteArray) (w : World) (hn : n ≤ maxLen) (hk : key.size ≤ maxLen) (hm : m ≤ maxLen) (hA : ∀ i, i < m → (A i).size ≤ maxLen)
    (hL : Byts w ad b off n l) (hz : ad = none → n = 0 ∧ c = 0) (hS : Strs w al bl ol m A) (hzS : al = none → m = 0 ∧ d = 0) :
    Calls Try.prog 6 #[.slice ad n c, .string key, .slice al m d] w fun e w' => e = .returned (.bool true) ∧ Below w.heap.size w w' := by
  by_cases hs : n ≤ 1048576 ∧ key.size ≤ 1048576 ∧ m ≤ 65536
  · obtain ⟨hs1, hs2, hs3⟩ := hs
    have hll := hL.len
    have d1 : decide (1048576 < (n : Int)) = false := by rw [decide_eq_false_iff_not]; omega
    have d2 : decide (1048576 < (key.size : Int)) = false := by rw [decide_eq_false_iff_not]; omega
    have d3 : decide (65536 < (m : Int)) = false := by rw [decide_eq_false_iff_not]; omega
    go_enter Try.func6, Try.ntmps6
    go_wp2_with fail
    refine (zz19_any ad al n c bl ol m d key A w hn hk hm hS hA).mono ?_
    rintro e w' ⟨⟨bb, rfl⟩, rfl⟩
    cases bb with
    | false =>
      go_wp2_with fail
      go_ret
      exact ⟨rfl, Below.refl _ _⟩
    | true =>
      go_wp2_with fail
      refine (listBytes_any ad al n c bl ol m d key A w hs1 hs2 hs3 hS hA).mono ?_
      rintro e w' ⟨⟨t, rfl, ht, ht2⟩, rfl⟩
      by_cases hbig : 1048576 < t
      · clear ht
        go_wp2_with fail
        go_ret
        exact ⟨rfl, Below.refl _ _⟩
      · have hsum := ht (by omega)
        clear ht
        have d4 : decide (1048576 < (t : Int)) = false := by rw [decide_eq_false_iff_not]; omega
        by_cases hm0 : m = 0
        · subst hm0
          go_wp2_with fail
          go_ret
          exact ⟨rfl, Below.refl _ _⟩
        · have hp : 0 < m := by omega
          have hmz : ((m : Int) == 0) = false := beq_eq_false_iff_ne.2 (by omega)
          go_wp2_with fail
          refine (has_any key 61 w hk).mono ?_
          rintro e w' ⟨⟨b1, rfl, hb1e⟩, rfl⟩
          cases b1 with
          | true =>
            clear hb1e
            go_wp2_with fail
            go_ret
            exact ⟨rfl, Below.refl _ _⟩
          | false =>
            have HKF : Hid (¬ has key 61) := fun h => absurd (hb1e.2 h) (by decide)
            clear hb1e
            go_wp2_with fail
            refine (listHas_any al bl ol m d A 44 w hs3 hS hA).mono ?_
            rintro e w' ⟨⟨b2, rfl, hb2e⟩, rfl⟩
            cases b2 with
            | true =>
              clear hb2e
              go_wp2_with fail
              go_ret
              exact ⟨rfl, Below.refl _ _⟩
            | false =>
              have HLF : Hid (∀ i, i < m → ¬ has (A i) 44) := fun i hi h => absurd (hb2e.2 ⟨i, hi, h⟩) (by decide)
              clear hb2e
              go_wp2_with fail
              refine (clone_any ad b off n c l w (by omega) hL hz).mono ?_
              rintro e w1 ⟨v0, rfl, hB0, hf0, hb1⟩
              have hS1 := hS.below hb1 (Nat.le_refl _)
              go_wp2_with fail
              refine (cloneS_any al bl ol m d A w1 hs3 hS1 hzS).mono ?_
              rintro e w2 ⟨al2, rfl, hS2, hb2⟩
              obtain rfl := hS2.at_ hp
              have hB2 := hB0.below hb2
              have hlt1 : w1.heap.size < w2.heap.size := World.block_lt_of_cell? w2 ⟨w1.heap.size, 0 + 0, none⟩ (hS2.cell 0 hp)
              go_wp2_with fail
              refine (clone_buf v0 l w2 hB2 (by omega)).mono ?_
              rintro e w3 ⟨vw, rfl, hBw, hfw, hb3⟩
              have hB3 := hB2.below hb3
              have hS3 := hS2.below hb3 (Nat.le_refl _)
              have s1 := hb1.size
              have s2 := hb2.size
              have s3 := hb3.size
              have p3 : Below w.heap.size w w3 := (hb1.trans (hb2.mono (by omega))).trans (hb3.mono (by omega))
              have hlt2 := hB0.lt
              have hjt := joined_tot A m
              have hne : some w1.heap.size ≠ v0.ownBlock := fun h => by have := hlt2 _ h.symm; omega
              have HC : Hid (Calls Try.prog 10 #[v0, .string key, .slice (some ⟨w1.heap.size, 0, none⟩) m m] w3 (Gives v0 (keyed l key ++ joined A m) w3)) :=
                list_some v0 l key _ w1.heap.size 0 m m A w3 hB3 (by omega) (by omega) hS3 hne hp
              go_wp2_with fail
              refine HC.out.mono ?_
              rintro e w4 ⟨vg, rfl, hBg, hEg⟩
              have hBw4 := hBw.keep hEg.grown (blocks_ne' hfw hB2.lt)
              have hS4 := hS3.evo hEg hne
              have P4 : Hid (Below w.heap.size w w4) := p3.grown hEg.grown (by omega) (fun k h => hf0 k h)
              rw [← tok_keyed] at hBg
              have hTl := tok_length l key (joined A m)
              obtain ⟨gg, cg, rfl, hcg, hcgm, hcells⟩ := hBg.form (by omega)
              have hP := parts_of hcells
              obtain ⟨adw, gw, cw, rfl, hYw, _, _, _⟩ := hBw4.byts
              have hstm : Hid (∀ i, i < m → st A i + (A i).size ≤ (joined A m).length ∧ (st A i + (A i).size = (joined A m).length ↔ i + 1 = m) ∧ st A (i + 1) = st A i + (A i).size + 1) := fun i hi => by
                have e1 := st_end A i
                have e2 := joined_len_le (A := A) (show i + 1 ≤ m by omega)
                have e3 := st_next A i
                refine ⟨by omega, ⟨fun h => ?_, fun h => by subst h; exact e1⟩, by omega⟩
                by_cases e : i + 1 = m
                · exact e
                · have e4 := joined_len_le (A := A) (show i + 1 + 1 ≤ m by omega)
                  have e5 := st_end A (i + 1)
                  omega
              have hAs : Hid (∀ i, i < m → (A i).size ≤ 1048576) := fun i hi => by have := tot_at (A := A) hi; omega
              have hS5 : Hid (∀ i, i < m → w4.cell? ⟨w1.heap.size, i, none⟩ = some (.string (A i))) := fun i hi => by have := hS4.cell i hi; rwa [Nat.zero_add] at this
              rw [hll] at hP hYw hTl ⊢
              rw [hTl] at hcg ⊢
              have SM : Hid (Calls Try.prog 11 #[.slice (some ⟨gg, 0, none⟩) n cg, .slice adw n cw] w4 fun e w' => e = .returned (.bool true) ∧ ∃ q, w' = w4.drewN q) :=
                same_any _ _ gg 0 gw 0 n cg cw l w4 (by omega) hP.front hYw
              unfold maxLen at hcgm
              have hJ : (joined A m).length ≤ 2097152 := by omega
              clear hcells hBg hBw4 hS4 hS3 hEg HC hB3 hB2 hS2 hS1 hb1 hb2 hb3 p3 hBw hYw hTl hfw hf0 hB0 hL hS hlt2 hne hjt
              generalize hJe : (joined A m).length = J at *
              go_wp2_with fail
              refine SM.out.mono ?_
              rintro e w5 ⟨rfl, q, rfl⟩
              have c0 : (w4.drewN q).cell? ⟨gg, n, none⟩ = some (.int .u8 32) := hP.space
              have hcn : ¬ cg = n := by omega
              clear SM
              go_wp2_with fail
              have eT : n + key.size + J + 2 - n = key.size + J + 2 := by omega
              rw [eT]
              have hcT : key.size + J + 2 ≤ cg - n := by omega
              have hcT2 : cg - n ≤ 9223372036854775807 := by omega
              generalize cg - n = cT at *
              have hkey : ∀ j, 1 ≤ j → j < key.size + 1 → ∃ z : Int, (w4.drewN q).cell? ⟨gg, n + j, none⟩ = some (.int .u8 z) ∧ (z != 61) = true := fun j h1 h2 => by
                have hh : j - 1 < key.size := by omega
                refine ⟨(key[j - 1].toNat : Int), ?_, ?_⟩
                · have := hP.key_ (j - 1) hh
                  rw [show n + 1 + (j - 1) = n + j by omega] at this
                  exact this
                · have := not_has HKF.out hh
                  rw [bs_getD hh] at this
                  simpa using this
              have heq : (w4.drewN q).cell? ⟨gg, n + (key.size + 1), none⟩ = some (.int .u8 61) := by
                have := hP.eq
                rw [show n + 1 + key.size = n + (key.size + 1) by omega] at this
                exact this
              have HI : Items (w4.drewN q) w1.heap.size gg n m J key A := by
                refine ⟨hS5.out, hAs.out, hstm.out, fun i r hi h => ?_, fun i r hi h => ?_, fun i hi => ?_, hP.key_⟩
                · have := hP.item i r hi h
                  rw [show n + 1 + key.size + 1 + (st A i + r) = n + (key.size + 2 + st A i + r) by omega] at this
                  exact this
                · have := not_has (HLF.out i hi) h
                  rw [bs_getD h] at this
                  exact this
                · have := hP.comma i hi
                  rw [show n + 1 + key.size + 1 + (st A i + (A i).size) = n + (key.size + 2 + st A i + (A i).size) by omega] at this
                  exact this
              refine loop1 (gL := w1.heap.size) (gg := gg) (n := n) (m := m) (TL := key.size + J + 2) (cT := cT) (key := key) ⟨⟨rfl, rfl⟩, rfl, rfl, rfl⟩ rfl (by omega) (by omega) hs1 hkey heq (fun a' hS' h10 => ?_)
              simp only [Exit.inBlock, if_true, Exit.then]
              go_step
              exact rest15 hS' h10 hcT hcT2 hJ hs1 hs2 hs3 hp HI (fun r => ⟨rfl, ⟨P4.out.os, P4.out.tape, P4.out.output, P4.out.size, P4.out.block⟩⟩)
  · go_enter Try.func6, Try.ntmps6
    go_wp2_with fail
    refine (zz19_any ad al n c bl ol m d key A w hn hk hm hS hA).mono ?_
    rintro e w' ⟨⟨bb, rfl⟩, rfl⟩
    unfold maxLen at hn hk hm
    cases bb with
    | false =>
      go_wp2_with fail
      go_ret
      exact ⟨rfl, Below.refl _ _⟩
    | true =>
      have hcase : 1048576 < n ∨ (n ≤ 1048576 ∧ 1048576 < key.size) ∨ (n ≤ 1048576 ∧ key.size ≤ 1048576 ∧ 65536 < m) := by omega
      clear hs
      rcases hcase with h1 | ⟨h1, h2⟩ | ⟨h1, h2, h3⟩
      · go_wp2_with fail
        go_ret
        exact ⟨rfl, Below.refl _ _⟩
      · go_wp2_with fail
        go_ret
        exact ⟨rfl, Below.refl _ _⟩
      · go_wp2_with fail
        go_ret
        exact ⟨rfl, Below.refl _ _⟩
