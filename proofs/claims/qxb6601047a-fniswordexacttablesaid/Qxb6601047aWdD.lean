/-
  The walks: isWordModel (12), isWord (29), ZZisWord (11).
-/
import Derived.Test.Qxb6601047aWdC
namespace Go.Proofs.Qxb6601047a
open Go.RowKit
set_option linter.unusedSimpArgs false
set_option linter.unusedVariables false

theorem Wd.no {p : Prop} (h : ¬ p) : (false = true) ↔ p := ⟨(fun e => by cases e), fun g => absurd g h⟩
theorem Wd.yes {p : Prop} (h : p) : (true = true) ↔ p := ⟨fun _ => h, fun _ => rfl⟩

set_option maxHeartbeats 1000000 in
theorem model_any (s : ByteArray) (hs : s.size ≤ 1048576) (w : World) : Calls Try.prog 12 #[.string s] w fun e w' => Wd.Says (Wd.spec s) e ∧ w = w' := by
  go_enter Try.func12, Try.ntmps12
  by_cases h0 : s.size = 0
  · have H0 : Hid (s.size = 0) := h0
    go_wp2
    go_ret
    exact ⟨Wd.Says.of (Wd.no (fun h => by have := h.1; have := H0.out; omega)), rfl⟩
  · have hpos : 0 < s.size := by omega
    have hz : ((s.size : Int) == 0) = false := beq_eq_false_iff_ne.2 (by omega)
    have E0 : Hid (Wd.byt s 0 = s[0].toNat) := Wd.byt_of hpos
    go_wp2_with fail
    refine (asciiLetter_any s[0].toNat (UInt8.toNat_lt _) _).mono ?_
    rintro e w' ⟨rfl, rfl⟩
    cases hl : Wd.isL s[0].toNat with
    | false =>
      have HL : Hid (Wd.isL s[0].toNat = false) := hl
      go_wp2
      go_ret
      exact ⟨Wd.Says.of (Wd.no (fun h => by have := h.2.1; rw [E0.out, HL.out] at this; cases this)), rfl⟩
    | true =>
      have HL : Hid (Wd.isL s[0].toNat = true) := hl
      go_wp2
      go_loop [3] (fun i => ∃ k : Nat, k ≤ s.size ∧ i = .int .i64 k ∧ Hid (∀ j, j < k → Wd.isB (Wd.byt s j) = true)) (fun i => s.size - (intOf i).toNat)
      case atStart => exact ⟨0, Nat.zero_le _, rfl, fun j h => by omega⟩
      case round =>
        obtain ⟨k, hk, rfl, hb⟩ := hrel
        by_cases hlt : k < s.size
        · have Ek : Hid (Wd.byt s k = s[k].toNat) := Wd.byt_of hlt
          go_wp2_with fail
          refine (wordByte_any s[k].toNat (UInt8.toNat_lt _) _).mono ?_
          rintro e w' ⟨rfl, rfl⟩
          cases hw : Wd.isB s[k].toNat with
          | false =>
            have HW : Hid (Wd.isB s[k].toNat = false) := hw
            have HK : Hid (k < s.size) := hlt
            go_wp2
            go_ret
            exact ⟨Wd.Says.of (Wd.no (fun h => by have := h.2.2.1 k HK.out; rw [Ek.out, HW.out] at this; cases this)), rfl⟩
          | true =>
            have HW : Hid (Wd.isB s[k].toNat = true) := hw
            go_wp2
            go_round
            case rel =>
              refine ⟨k + 1, by omega, by go_num, fun j hj => ?_⟩
              by_cases e : j = k
              · subst e; rw [Ek.out]; exact HW.out
              · exact hb.out j (by omega)
            case measure => simp [intOf]; omega
        · obtain rfl : k = s.size := by omega
          go_wp2
          go_loop [4] (fun i => ∃ k : Nat, k ≤ 9 ∧ i = .int .i64 k ∧ Hid (∀ j, j < k → ¬ Wd.caseF s (Wd.stemS j))) (fun i => 9 - (intOf i).toNat)
          case atStart => exact ⟨0, Nat.zero_le _, rfl, fun j h => by omega⟩
          case round =>
            obtain ⟨k, hk, rfl, hc⟩ := hrel
            by_cases hlt : k < 9
            · have hst : (Wd.stemS k).size ≤ 5 := by rw [Wd.stem_size]; exact (Wd.stem_facts ⟨k, hlt⟩).2.2.1
              go_wp2_with fail
              refine (typedStem_any k hlt _).mono ?_
              rintro e w' ⟨rfl, rfl⟩
              go_wp2_with fail
              refine (caseForm_any s (Wd.stemS k) hs hst _).mono ?_
              rintro e w' ⟨⟨b, rfl, hb2⟩, rfl⟩
              have HB : Hid (b = true ↔ Wd.caseF s (Wd.stemS k)) := hb2
              clear hb2
              cases b with
              | true =>
                have HK : Hid (k < 9) := hlt
                go_wp2
                go_ret
                exact ⟨Wd.Says.of (Wd.no (fun h => h.2.2.2 ((Wd.table s).2 ⟨k, HK.out, HB.out.1 (by trivial)⟩))), rfl⟩
              | false =>
                go_wp2
                go_round
                case rel =>
                  refine ⟨k + 1, by omega, by go_num, fun j hj => ?_⟩
                  by_cases e : j = k
                  · subst e; exact fun h => absurd (HB.out.2 h) (by decide)
                  · exact hc.out j (by omega)
                case measure => simp [intOf]; omega
            · obtain rfl : k = 9 := by omega
              have HP : Hid (0 < s.size) := hpos
              go_wp2
              go_ret
              exact ⟨Wd.Says.of (Wd.yes ⟨HP.out, by rw [E0.out]; exact HL.out, hb.out, fun h => by obtain ⟨k, h1, h2⟩ := (Wd.table s).1 h; exact hc.out k h1 h2⟩), rfl⟩

theorem Wd.str_empty {s : ByteArray} (h : s.size = 0) : s.toList = [] := List.eq_nil_of_length_eq_zero (by rw [Wd.size_toList]; exact h)
theorem Wd.str_full {s : ByteArray} (h : ¬ s.size = 0) : ¬ s.toList = [] := fun e => h (by rw [← Wd.size_toList, e]; rfl)

set_option maxHeartbeats 1000000 in
theorem isWord_any (s : ByteArray) (hs : s.size ≤ 1048576) (w : World) : Calls Try.prog 29 #[.string s] w fun e w' => Wd.Says (Wd.spec s) e ∧ w = w' := by
  go_enter Try.func29, Try.ntmps29
  by_cases h0 : s.size = 0
  · have H0 : Hid (s.size = 0) := h0
    have hE := Wd.str_empty h0
    have hE2 : s.toList.isEmpty = true := by rw [hE]; rfl
    go_wp2
    go_ret
    exact ⟨Wd.Says.of (Wd.no (fun h => by have := h.1; have := H0.out; omega)), rfl⟩
  · have hpos : 0 < s.size := by omega
    have hE := Wd.str_full h0
    have hE2 : s.toList.isEmpty = false := by rw [List.isEmpty_eq_false_iff]; exact hE
    have E0 : Hid (Wd.byt s 0 = s[0].toNat) := Wd.byt_of hpos
    go_wp2_with fail
    refine (isLetter_any s[0].toNat (UInt8.toNat_lt _) _).mono ?_
    rintro e w' ⟨rfl, rfl⟩
    cases hl : Wd.isL s[0].toNat with
    | false =>
      have HL : Hid (Wd.isL s[0].toNat = false) := hl
      go_wp2
      go_ret
      exact ⟨Wd.Says.of (Wd.no (fun h => by have := h.2.1; rw [E0.out, HL.out] at this; cases this)), rfl⟩
    | true =>
      have HL : Hid (Wd.isL s[0].toNat = true) := hl
      go_wp2
      go_loop [3, 4] (fun l i => ∃ k : Nat, k ≤ s.size ∧ i = .int .i64 k ∧ Hid (∀ j, j < k → Wd.isB (Wd.byt s j) = true) ∧ ∃ b : Bool, l = .bool b ∧ Hid (b = true ↔ ∀ j, j < k → Wd.isL (Wd.byt s j) = true)) (fun l i => s.size - (intOf i).toNat)
      case atStart => exact ⟨0, Nat.zero_le _, rfl, fun j h => by omega, true, rfl, ⟨fun _ j h => by omega, fun _ => rfl⟩⟩
      case round =>
        obtain ⟨k, hk, rfl, hb, b, rfl, hlb⟩ := hrel
        by_cases hlt : k < s.size
        · have Ek : Hid (Wd.byt s k = s[k].toNat) := Wd.byt_of hlt
          go_wp2_with fail
          refine (isLetter_any s[k].toNat (UInt8.toNat_lt _) _).mono ?_
          rintro e w' ⟨rfl, rfl⟩
          cases hw : Wd.isL s[k].toNat with
          | true =>
            have HW : Hid (Wd.isL s[k].toNat = true) := hw
            go_wp2
            go_round
            case rel =>
              refine ⟨k + 1, by omega, by go_num, fun j hj => ?_, b, rfl, Wd.stepT hlb.out (by rw [Ek.out]; exact HW.out)⟩
              by_cases e : j = k
              · subst e; rw [Ek.out]; unfold Wd.isB; rw [HW.out]; rfl
              · exact hb.out j (by omega)
            case measure => simp [intOf]; omega
          | false =>
            have HW : Hid (Wd.isL s[k].toNat = false) := hw
            have HK : Hid (k < s.size) := hlt
            have HM : Hid (Wd.mark s[k].toNat = (decide (48 ≤ s[k].toNat ∧ s[k].toNat ≤ 57) || decide (s[k].toNat = 46) || decide (s[k].toNat = 95) || decide (s[k].toNat = 47) || decide (s[k].toNat = 45))) := rfl
            have hx : s[k].toNat < 256 := UInt8.toNat_lt _
            generalize s[k].toNat = x at *
            cases hm : Wd.mark x with
            | true =>
              have HM2 : Hid (Wd.mark x = true) := hm
              have hcase : (48 ≤ x ∧ x ≤ 57) ∨ x = 46 ∨ x = 95 ∨ x = 47 ∨ x = 45 := by
                rw [HM.out] at hm
                simp only [Bool.or_eq_true, decide_eq_true_eq] at hm
                omega
              clear hm hw HM
              rcases hcase with ⟨h1, h2⟩ | rfl | rfl | rfl | rfl
              · go_wp2
                go_round
                case rel =>
                  refine ⟨k + 1, by omega, by go_num, fun j hj => ?_, false, rfl, Wd.stepF (by rw [Ek.out, HW.out]; decide)⟩
                  by_cases e : j = k
                  · subst e; rw [Ek.out]; unfold Wd.isB; rw [HM2.out, HW.out]; rfl
                  · exact hb.out j (by omega)
                case measure => simp [intOf]; omega
              · go_wp2
                go_round
                case rel =>
                  refine ⟨k + 1, by omega, by go_num, fun j hj => ?_, false, rfl, Wd.stepF (by rw [Ek.out, HW.out]; decide)⟩
                  by_cases e : j = k
                  · subst e; rw [Ek.out]; unfold Wd.isB; rw [HM2.out, HW.out]; rfl
                  · exact hb.out j (by omega)
                case measure => simp [intOf]; omega
              · go_wp2
                go_round
                case rel =>
                  refine ⟨k + 1, by omega, by go_num, fun j hj => ?_, false, rfl, Wd.stepF (by rw [Ek.out, HW.out]; decide)⟩
                  by_cases e : j = k
                  · subst e; rw [Ek.out]; unfold Wd.isB; rw [HM2.out, HW.out]; rfl
                  · exact hb.out j (by omega)
                case measure => simp [intOf]; omega
              · go_wp2
                go_round
                case rel =>
                  refine ⟨k + 1, by omega, by go_num, fun j hj => ?_, false, rfl, Wd.stepF (by rw [Ek.out, HW.out]; decide)⟩
                  by_cases e : j = k
                  · subst e; rw [Ek.out]; unfold Wd.isB; rw [HM2.out, HW.out]; rfl
                  · exact hb.out j (by omega)
                case measure => simp [intOf]; omega
              · go_wp2
                go_round
                case rel =>
                  refine ⟨k + 1, by omega, by go_num, fun j hj => ?_, false, rfl, Wd.stepF (by rw [Ek.out, HW.out]; decide)⟩
                  by_cases e : j = k
                  · subst e; rw [Ek.out]; unfold Wd.isB; rw [HM2.out, HW.out]; rfl
                  · exact hb.out j (by omega)
                case measure => simp [intOf]; omega
            | false =>
              have HM2 : Hid (Wd.mark x = false) := hm
              have hcase : ¬ x = 46 ∧ ¬ x = 95 ∧ ¬ x = 47 ∧ ¬ x = 45 ∧ (x < 48 ∨ 57 < x) := by
                rw [HM.out] at hm
                simp only [Bool.or_eq_false_iff, decide_eq_false_iff_not] at hm
                omega
              clear hm hw HM
              have HN : Hid (¬ Wd.spec s) := fun h => by
                have := h.2.2.1 k HK.out
                rw [Ek.out] at this
                unfold Wd.isB at this
                rw [HW.out, HM2.out] at this
                cases this
              obtain ⟨n1, n2, n3, n4, h5 | h5⟩ := hcase
              · go_wp2
                go_ret
                exact ⟨Wd.Says.of (Wd.no HN.out), rfl⟩
              · go_wp2
                go_ret
                exact ⟨Wd.Says.of (Wd.no HN.out), rfl⟩
        · obtain rfl : k = s.size := by omega
          have HP : Hid (0 < s.size) := hpos
          have HA : Hid (s.toList ∉ Wd.words → Wd.spec s) := fun h => ⟨HP.out, by rw [E0.out]; exact HL.out, hb.out, h⟩
          cases b with
          | false =>
            have HS : Hid (Wd.spec s) := HA.out fun g => by
              have : ∀ j, j < s.size → Wd.isL (Wd.byt s j) = true := fun j hj => by
                cases hq : Wd.isL (Wd.byt s j) with
                | true => rfl
                | false => exact absurd g (Wd.not_mark hj hq)
              exact absurd (hlb.out.2 this) (by decide)
            go_wp2
            go_ret
            exact ⟨Wd.Says.of (Wd.yes HS.out), rfl⟩
          | true =>
            by_cases h5 : 5 < s.size
            · have HS : Hid (Wd.spec s) := HA.out (Wd.not_long h5)
              go_wp2
              go_ret
              exact ⟨Wd.Says.of (Wd.yes HS.out), rfl⟩
            · go_wp2_with fail
              refine (yaml_any s _).mono ?_
              rintro e w' ⟨⟨v, b, rfl, hyb⟩, rfl⟩
              have HY : Hid (b = true ↔ s.toList ∈ Wd.bools) := hyb
              clear hyb
              cases b with
              | true =>
                have HN : Hid (¬ Wd.spec s) := fun h => h.2.2.2 (List.mem_append.2 (.inl (HY.out.1 rfl)))
                go_wp2
                go_ret
                exact ⟨Wd.Says.of (Wd.no HN.out), rfl⟩
              | false =>
                go_wp2_with fail
                refine (core_any s _).mono ?_
                rintro e w' ⟨⟨c, rfl, hcb⟩, rfl⟩
                have HC : Hid (c = true ↔ s.toList ∈ Wd.core) := hcb
                clear hcb
                cases c with
                | true =>
                  have HN : Hid (¬ Wd.spec s) := fun h => h.2.2.2 (List.mem_append.2 (.inr (HC.out.1 rfl)))
                  go_wp2
                  go_ret
                  exact ⟨Wd.Says.of (Wd.no HN.out), rfl⟩
                | false =>
                  have HS : Hid (Wd.spec s) := HA.out fun g => by
                    rcases List.mem_append.1 g with g | g
                    · exact absurd (HY.out.2 g) (by decide)
                    · exact absurd (HC.out.2 g) (by decide)
                  go_wp2
                  go_ret
                  exact ⟨Wd.Says.of (Wd.yes HS.out), rfl⟩

theorem zzWord_any (s : ByteArray) (hs : s.size ≤ 1048576) (w : World) : Calls Try.prog 11 #[.string s] w fun e w' => Wd.Says (Wd.spec s) e ∧ w = w' := by
  go_enter Try.func11, Try.ntmps11
  go_wp2_with fail
  refine (isWord_any s hs _).mono ?_
  rintro e w' ⟨⟨b, rfl, hb⟩, rfl⟩
  have HB : Hid (b = true ↔ Wd.spec s) := hb
  clear hb
  go_wp2
  go_ret
  exact ⟨Wd.Says.of HB.out, rfl⟩
