/-
  The second half of FnAppendListSplitsBack (6): behind its first loop.
-/
import Derived.Test.Qxb6601573aSp
import Derived.Deep.RegionWith
namespace Go.Proofs.Qxb6601573a
open Go.RowKit
set_option linter.unusedSimpArgs false
set_option linter.unusedVariables false

/-- where the second loop stands: in item i behind r of its bytes, or behind the last -/
def At2 (A : Nat → ByteArray) (m B J idx start p : Nat) : Prop :=
  (∃ r, idx < m ∧ r ≤ (A idx).size ∧ start = B + st A idx ∧ p = B + st A idx + r) ∨ (idx = m ∧ start = B + J + 1 ∧ p = B + J + 1)

structure Items (w : World) (gL gg n m J : Nat) (key : ByteArray) (A : Nat → ByteArray) : Prop where
  list : ∀ i, i < m → w.cell? ⟨gL, i, none⟩ = some (.string (A i))
  size : ∀ i, i < m → (A i).size ≤ 1048576
  fit : ∀ i, i < m → st A i + (A i).size ≤ J ∧ (st A i + (A i).size = J ↔ i + 1 = m) ∧ st A (i + 1) = st A i + (A i).size + 1
  item : ∀ i r, i < m → (h : r < (A i).size) → w.cell? ⟨gg, n + (key.size + 2 + st A i + r), none⟩ = some (.int .u8 ((A i)[r].toNat : Int))
  free : ∀ i r, i < m → (h : r < (A i).size) → ¬ ((A i)[r].toNat : Int) = 44
  comma : ∀ i, i + 1 < m → w.cell? ⟨gg, n + (key.size + 2 + st A i + (A i).size), none⟩ = some (.int .u8 44)
  key_ : ∀ i (h : i < key.size), w.cell? ⟨gg, n + 1 + i, none⟩ = some (.int .u8 (key[i].toNat : Int))

set_option maxRecDepth 100000 in
set_option maxHeartbeats 4000000 in
theorem rest15 {gL gg n m J cT : Nat} {key : ByteArray} {A : Nat → ByteArray} {w : World} {a : Act} {R : Ending → World → Prop} (hS : S6 gL gg n m (key.size + J + 2) cT key a) (s10 : slot a 10 = .int .i64 ((key.size + 1 : Nat) : Int))
    (hcT : key.size + J + 2 ≤ cT) (hcT2 : cT ≤ 9223372036854775807) (hJ : J ≤ 2097152) (hn : n ≤ 1048576) (hk : key.size ≤ 1048576) (hm : m ≤ 65536) (hp : 0 < m) (hI : Items w gL gg n m J key A)
    (hR : ∀ q, R (.returned (.bool true)) (w.drewN q)) : Wp6 [1, 1, 1, 1, 1, 1, 1, 1, 1, 1, 1, 1, 1, 1, 1] (bodyPost Try.prog Try.f6 R) a w := by
  unfold Wp6
  conv => arg 2; whnf
  obtain ⟨ok, s1, s2, s9⟩ := hS
  rw [Fr145_of ok]
  generalize slot a = s at *
  unfold Fr145
  simp only [s1, s2, s9, s10]
  clear s1 s2 s9 s10 ok
  have hcT1 : ¬ cT = 1 := by omega
  have SS0 : Hid (Calls Try.prog 18 #[.slice (some ⟨gg, n + 1, none⟩) key.size (cT - 1), .string key] w fun e w' => e = .returned (.bool true) ∧ ∃ r, w' = w.drewN r) :=
    sameStr_any _ gg (n + 1) _ key w (by omega) ⟨bs_length key, fun _ => rfl, fun i hi => by rw [bs_getD hi]; exact hI.key_ i hi⟩
  go_wp2_with fail
  refine SS0.out.mono ?_
  rintro e w1 ⟨rfl, q, rfl⟩
  clear SS0
  go_wp2_with fail
  go_loopw [11, 12, 13] (fun ix sx px wr => ∃ idx start p x : Nat, ix = .int .i64 idx ∧ sx = .int .i64 start ∧ px = .int .i64 p ∧ wr = w.drewN x ∧ Hid (At2 A m (key.size + 2) J idx start p)) (fun _ _ px _ => (((key.size + 2 + J + 1 : Nat) : Int) - intOf px).toNat)
  case atStart => exact ⟨0, key.size + 2, key.size + 2, q, rfl, by go_num, by go_num, rfl, .inl ⟨0, hp, Nat.zero_le _, by simp [st], by simp [st]⟩⟩
  case round =>
    obtain ⟨idx, start, p, x, rfl, rfl, rfl, rfl, hat⟩ := hrel
    rcases hat.out with ⟨r, hi, hr, hst, hpp⟩ | ⟨rfl, rfl, rfl⟩
    · obtain ⟨hf1, hf2, hf3⟩ := hI.fit idx hi
      have hsz := hI.size idx hi
      by_cases hlt : r < (A idx).size
      · have g1 : (w.drewN x).cell? ⟨gg, n + p, none⟩ = some (.int .u8 ((A idx)[r].toNat : Int)) := by rw [hpp]; exact hI.item idx r hi hlt
        have g2 : (((A idx)[r].toNat : Int) == 44) = false := beq_eq_false_iff_ne.2 (hI.free idx r hi hlt)
        have hpl : p < key.size + J + 2 := by omega
        have HN : Hid (At2 A m (key.size + 2) J idx start (p + 1)) := .inl ⟨r + 1, hi, by omega, hst, by omega⟩
        have g3 : ((p : Int) == (key.size : Int) + J + 2) = false := beq_eq_false_iff_ne.2 (by omega)
        generalize ((A idx)[r].toNat : Int) = z at *
        clear hf1 hf2 hf3 hst hpp hlt hr hsz hat
        go_wp2_with fail
        go_roundw
        case rel => exact ⟨idx, start, p + 1, x, rfl, rfl, by go_num, rfl, HN.out⟩
        case measure => simp only [intOf]; omega
      · obtain rfl : r = (A idx).size := by omega
        have HX : Hid (At2 A m (key.size + 2) J (idx + 1) (p + 1) (p + 1)) := by
          by_cases hl : idx + 1 = m
          · exact .inr ⟨hl, by have := hf2.2 hl; omega, by have := hf2.2 hl; omega⟩
          · exact .inl ⟨0, by omega, Nat.zero_le _, by omega, by omega⟩
        have hcell : ∀ i (h : i < (A idx).size), w.cell? ⟨gg, n + start + i, none⟩ = some (.int .u8 ((bs (A idx)).getD i 0)) := fun i h => by
          have := hI.item idx i hi h
          rw [bs_getD h, hst, show n + (key.size + 2 + st A idx) + i = n + (key.size + 2 + st A idx + i) by omega]
          exact this
        have hps : p = start + (A idx).size := by omega
        have hlist : w.cell? ⟨gL, idx, none⟩ = some (.string (A idx)) := hI.list idx hi
        have hple : p ≤ key.size + J + 2 := by omega
        have hcomma : idx + 1 < m → w.cell? ⟨gg, n + p, none⟩ = some (.int .u8 44) := fun h => by rw [hpp]; exact hI.comma idx h
        have hlast : p = key.size + J + 2 ↔ idx + 1 = m := by constructor <;> intro h <;> omega
        clear hf1 hf2 hf3 hst hpp hlt hr hat hI
        generalize A idx = y at *
        have g5 : start ≤ p := by omega
        have g6 : p ≤ cT := by omega
        have H2 : ∀ (W : World) (ad : Option Addr) (c : Nat), (∀ i (h : i < y.size), W.cell? ⟨gg, n + start + i, none⟩ = some (.int .u8 ((bs y).getD i 0))) → (0 < y.size → ad = some ⟨gg, n + start, none⟩) → Calls Try.prog 18 #[.slice ad (p - start) c, .string y] W fun e w' => e = .returned (.bool true) ∧ ∃ r, w' = W.drewN r := by
          rw [show p - start = y.size by omega]
          exact fun W ad c h1 h2 => sameStr_any ad gg (n + start) c y W (by omega) ⟨bs_length y, h2, h1⟩
        have hsz2 : cT = start → y.size = 0 := by omega
        have H : Hid (∀ (W : World), (∀ i (h : i < y.size), W.cell? ⟨gg, n + start + i, none⟩ = some (.int .u8 ((bs y).getD i 0))) → Calls Try.prog 18 #[.slice (some ⟨gg, n + start, none⟩) (p - start) (cT - start), .string y] W fun e w' => e = .returned (.bool true) ∧ ∃ r, w' = W.drewN r) := fun W h => H2 W _ _ h (fun _ => rfl)
        have H0 : Hid (cT = start → ∀ (W : World), (∀ i (h : i < y.size), W.cell? ⟨gg, n + start + i, none⟩ = some (.int .u8 ((bs y).getD i 0))) → Calls Try.prog 18 #[.slice (some ⟨gg, n, none⟩) 0 0, .string y] W fun e w' => e = .returned (.bool true) ∧ ∃ r, w' = W.drewN r) := fun hc W h => by
          have h0 := hsz2 hc
          have := H2 W (some ⟨gg, n, none⟩) 0 h (fun h1 => absurd h0 (by omega))
          rw [show p - start = 0 by omega] at this
          exact this
        clear H2 hsz2
        by_cases hl : idx + 1 = m
        · have g3 : ((p : Int) == (key.size : Int) + J + 2) = true := by rw [beq_iff_eq]; omega
          clear hcomma hlast hps
          by_cases hcs : cT = start
          · subst hcs
            have H1 : Hid (∀ (W : World), (∀ i (h : i < y.size), W.cell? ⟨gg, n + cT + i, none⟩ = some (.int .u8 ((bs y).getD i 0))) → Calls Try.prog 18 #[.slice (some ⟨gg, n, none⟩) 0 0, .string y] W fun e w' => e = .returned (.bool true) ∧ ∃ r, w' = W.drewN r) := H0.out rfl
            clear H0
            go_wp2_with fail
            have e1 : ¬ ((cT : Int) < p) := by omega
            have e2 : ¬ ((p : Int) < cT) := by omega
            go_region_with (go_at_call 18; refine (H1.out _ ?_).mono ?_; exact hcell; rintro e w6 ⟨rfl, z, rfl⟩)
            go_wp2_with fail
            go_roundw
            case rel => exact ⟨idx + 1, p + 1, p + 1, x + 1 + z, by go_num, by go_num, by go_num, by trivial, HX.out⟩
            case measure => simp only [intOf]; omega
          · go_wp2_with fail
            have e1 : ¬ ((cT : Int) < p) := by omega
            have e2 : ¬ ((p : Int) < start) := by omega
            go_region_with (go_at_call 18; refine (H.out _ ?_).mono ?_; exact hcell; rintro e w6 ⟨rfl, z, rfl⟩)
            go_wp2_with fail
            go_roundw
            case rel => exact ⟨idx + 1, p + 1, p + 1, x + 1 + z, by go_num, by go_num, by go_num, by trivial, HX.out⟩
            case measure => simp only [intOf]; omega
        · have g3 : ((p : Int) == (key.size : Int) + J + 2) = false := beq_eq_false_iff_ne.2 (by omega)
          have g1 : (w.drewN x).cell? ⟨gg, n + p, none⟩ = some (.int .u8 44) := hcomma (by omega)
          have hpl : p < key.size + J + 2 := by omega
          clear hcomma hlast hps
          have hcs : ¬ cT = start := by omega
          go_wp2_with fail
          have e1 : ¬ ((cT : Int) < p) := by omega
          have e2 : ¬ ((p : Int) < start) := by omega
          go_region_with (go_at_call 18; refine (H.out _ ?_).mono ?_; exact hcell; rintro e w6 ⟨rfl, z, rfl⟩)
          go_wp2_with fail
          go_roundw
          case rel => exact ⟨idx + 1, p + 1, p + 1, x + 1 + z, by go_num, by go_num, by go_num, by trivial, HX.out⟩
          case measure => simp only [intOf]; omega
    · go_wp2_with fail
      exact hR x
