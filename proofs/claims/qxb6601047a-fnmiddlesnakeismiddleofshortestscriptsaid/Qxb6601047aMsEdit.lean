/-
  The walks of lcsLen (35) and editSteps (27).
-/
import Derived.Test.Qxb6601047aMsMain
import Derived.Test.Qxb6601047aMsLcs
import Derived.Deep.QuietTactic
import Derived.BigQuiet
namespace Go.Proofs.Qxb6601047a
open Go.RowKit Lcs
set_option linter.unusedSimpArgs false
set_option linter.unusedVariables false

/-- the rolling row while line i is worked in: the cells before j are new -/
def mixL (A B : Int → Int) (i j : Nat) : Nat → Int := fun t => if t < j then S A B 0 0 (i + 1) t else S A B 0 0 i t
theorem mixL_new (A B : Int → Int) (i q : Nat) : mixL A B i (q + 1) q = S A B 0 0 (i + 1) q := by simp [mixL]
theorem mixL_old (A B : Int → Int) (i q : Nat) : mixL A B i (q + 1) (q + 1) = S A B 0 0 i (q + 1) := by simp [mixL]
theorem mixL_upd (A B : Int → Int) (i q : Nat) : upd (mixL A B i (q + 1)) (q + 1) (S A B 0 0 (i + 1) (q + 1)) = mixL A B i (q + 2) := by
  funext t
  simp only [upd, mixL]
  by_cases h : t = q + 1
  · subst h; simp
  · by_cases h2 : t < q + 1
    · rw [if_neg h, if_pos h2, if_pos (by omega)]
    · rw [if_neg h, if_neg h2, if_neg (by omega)]

set_option maxHeartbeats 2000000 in
theorem lcs_any (ba oa n ca bb ob m cb : Nat) (A B : Int → Int) (w : World) (hba : ba < w.heap.size) (hbb : bb < w.heap.size) (hn : n ≤ 512) (hm : m ≤ 512)
    (ra : Reads w ba oa n (lineV A)) (rb : Reads w bb ob m (lineV B)) :
    Calls Try.prog 35 #[.slice (some ⟨ba, oa, none⟩) n ca, .slice (some ⟨bb, ob, none⟩) m cb] w fun e w' => e = .returned (.int .i64 (S A B 0 0 n m)) ∧ Below w.heap.size w w' := by
  obtain ⟨i0, hi, hz0, hz1, hz2⟩ := info_parts Try.info3
  go_enter Try.func35, Try.ntmps35
  go_wp2_with (at_make; refine wpList_make_full _ rfl _ _ 30 rfl w.heap.size 3 i0 (.int .i64 0) 1 Try.underlying30 hi hz0 hz1 _ _ _ _ (m + 1) rfl rfl (by omega) (by omega) ?b2 ?b3 (Nat.le_refl _) ?_)
  case b2 => rw [hz2]; omega
  case b3 => unfold maxLen; omega
  intro w0 hown0 hgrow0
  rw [toList_madeCells_one] at hown0
  have hr0 : Row w0 w.heap.size 3 (m + 1) (ints (fun t => S A B 0 0 0 t)) := Row.of_owns hown0 (fun i hi => by simp [hi, ints, S_zl])
  clear hown0 hi hz0 hz1 hz2
  go_wp2
  go_loopw [6] (fun si wr => ∃ i : Nat, i ≤ n ∧ si = .int .i64 i ∧ Row wr w.heap.size 3 (m + 1) (ints (fun t => S A B 0 0 i t)) ∧ Below w.heap.size w wr)
    (fun si _ => n - (intOf si).toNat)
  case atStart => exact ⟨0, Nat.zero_le _, rfl, hr0, (Below.refl _ _).grown hgrow0 (Nat.le_refl _) (fun k h => by cases h)⟩
  case round =>
    obtain ⟨i, hin, rfl, hrow, hbel⟩ := hrel
    obtain ⟨wo, rfl⟩ : ∃ wo : World, wo = wr := ⟨_, rfl⟩
    clear hr0 hgrow0
    by_cases hlt : i < n
    · go_wp2
      go_loopw [7, 8] (fun sd sj wr => ∃ q : Nat, q ≤ m ∧ sd = .int .i64 (S A B 0 0 i q) ∧ sj = .int .i64 ((q : Int) + 1) ∧ Row wr w.heap.size 3 (m + 1) (ints (mixL A B i (q + 1))) ∧ Below w.heap.size w wr)
        (fun _ sj _ => m + 1 - (intOf sj).toNat)
      case atStart =>
        refine ⟨0, Nat.zero_le _, by rw [S_zr], by simp, hrow.congr (fun t ht => ?_), hbel⟩
        simp only [ints, mixL]
        by_cases h : t < 0 + 1
        · rw [if_pos h]
          obtain rfl : t = 0 := by omega
          rw [S_zr, S_zr]
        · rw [if_neg h]
      case round =>
        obtain ⟨q, hqm, rfl, rfl, hrow', hbel'⟩ := hrel
        clear hrow hbel
        by_cases hq : q < m
        · have c1 : wr.cell? ⟨w.heap.size, q + 1, none⟩ = some (.int .i64 (mixL A B i (q + 1) (q + 1))) := hrow'.cell (q + 1) (by omega)
          have c2 : wr.cell? ⟨w.heap.size, q, none⟩ = some (.int .i64 (mixL A B i (q + 1) q)) := hrow'.cell q (by omega)
          have c3 : wr.cell? ⟨ba, oa + i, none⟩ = some (.int .i64 (A i)) := (hbel'.cell (by exact hba)).trans (ra i hlt)
          have c4 : wr.cell? ⟨bb, ob + q, none⟩ = some (.int .i64 (B q)) := (hbel'.cell (by exact hbb)).trans (rb q hq)
          rw [mixL_old] at c1
          rw [mixL_new] at c2
          have f1 := hrow'.free (q + 1)
          have u1 := S_le1 (A := A) (B := B) (i := 0) (j := 0) i q
          have u2 := S_nn (A := A) (B := B) (i := 0) (j := 0) i q
          have u3 := S_le1 (A := A) (B := B) (i := 0) (j := 0) i (q + 1)
          have u4 := S_nn (A := A) (B := B) (i := 0) (j := 0) i (q + 1)
          have u5 := S_le1 (A := A) (B := B) (i := 0) (j := 0) (i + 1) q
          have u6 := S_nn (A := A) (B := B) (i := 0) (j := 0) (i + 1) q
          have so : Row (wr.setCell ⟨w.heap.size, q + 1, none⟩ (.int .i64 (S A B 0 0 (i + 1) (q + 1)))) w.heap.size 3 (m + 1) (ints (mixL A B i (q + 2))) := by
            have := hrow'.set (q + 1) (.int .i64 (S A B 0 0 (i + 1) (q + 1)))
            rw [ints_upd, mixL_upd] at this
            exact this
          have bo : Below w.heap.size w (wr.setCell ⟨w.heap.size, q + 1, none⟩ (.int .i64 (S A B 0 0 (i + 1) (q + 1)))) := hbel'.setCell (by exact Nat.le_refl _) _
          by_cases hab : A i = B q
          · have e : S A B 0 0 (i + 1) (q + 1) = S A B 0 0 i q + 1 := S_eq (by simpa using hab)
            rw [e] at so bo
            have hab' : (A i == B q) = true := by simpa using hab
            clear hab e hrow' hbel'
            go_wp2_with fail
            go_quiet (fail)
            go_wp2
            go_roundw
            case rel => exact ⟨q + 1, by omega, rfl, by go_num, so, ⟨bo.os, bo.tape, bo.output, bo.size, bo.block⟩⟩
            case measure => simp [intOf]; omega
          · have e : S A B 0 0 (i + 1) (q + 1) = max (S A B 0 0 (i + 1) q) (S A B 0 0 i (q + 1)) := S_ne (by simpa using hab)
            have hab' : (A i == B q) = false := by simpa using hab
            clear hab
            by_cases hgt : S A B 0 0 i (q + 1) < S A B 0 0 (i + 1) q
            · have e' : S A B 0 0 (i + 1) (q + 1) = S A B 0 0 (i + 1) q := by omega
              rw [e'] at so bo
              clear e e' hrow' hbel'
              go_wp2_with fail
              go_quiet (fail)
              go_wp2
              go_roundw
              case rel => exact ⟨q + 1, by omega, rfl, by go_num, so, ⟨bo.os, bo.tape, bo.output, bo.size, bo.block⟩⟩
              case measure => simp [intOf]; omega
            · have e' : S A B 0 0 (i + 1) (q + 1) = S A B 0 0 i (q + 1) := by omega
              have so' : Row wr w.heap.size 3 (m + 1) (ints (mixL A B i (q + 2))) := by
                refine hrow'.congr (fun t ht => ?_)
                simp only [ints, mixL]
                by_cases h : t < q + 1
                · rw [if_pos h, if_pos (by omega)]
                · rw [if_neg h]
                  by_cases h2 : t < q + 2
                  · rw [if_pos h2]
                    obtain rfl : t = q + 1 := by omega
                    rw [e']
                  · rw [if_neg h2]
              clear e e' hrow' so bo
              go_wp2_with fail
              go_quiet (fail)
              go_wp2
              go_roundw
              case rel => exact ⟨q + 1, by omega, rfl, by go_num, so', ⟨hbel'.os, hbel'.tape, hbel'.output, hbel'.size, hbel'.block⟩⟩
              case measure => simp [intOf]; omega
        · obtain rfl : q = m := by omega
          go_wp2
          go_roundw
          case rel =>
            refine ⟨i + 1, by omega, by go_num, hrow'.congr (fun t ht => ?_), hbel'⟩
            simp only [ints, mixL]
            rw [if_pos ht]
          case measure => simp [intOf]; omega
    · obtain rfl : i = n := by omega
      have c1 : wo.cell? ⟨w.heap.size, m, none⟩ = some (.int .i64 (S A B 0 0 i m)) := hrow.cell m (by omega)
      go_wp2
      go_ret
      exact ⟨rfl, hbel⟩

theorem edit_any (ba oa n ca bb ob m cb : Nat) (A B : Int → Int) (w : World) (hba : ba < w.heap.size) (hbb : bb < w.heap.size) (hn : n ≤ 512) (hm : m ≤ 512)
    (ra : Reads w ba oa n (lineV A)) (rb : Reads w bb ob m (lineV B)) :
    Calls Try.prog 27 #[.slice (some ⟨ba, oa, none⟩) n ca, .slice (some ⟨bb, ob, none⟩) m cb] w fun e w' => e = .returned (.int .i64 ((n : Int) + m - 2 * S A B 0 0 n m)) ∧ Below w.heap.size w w' := by
  have u1 := S_le1 (A := A) (B := B) (i := 0) (j := 0) n m
  have u2 := S_nn (A := A) (B := B) (i := 0) (j := 0) n m
  go_enter Try.func27, Try.ntmps27
  go_wp2_with fail
  refine (lcs_any ba oa n ca bb ob m cb A B w hba hbb hn hm ra rb).mono ?_
  rintro e w' ⟨rfl, hb⟩
  go_wp2_with fail
  go_ret
  exact ⟨rfl, hb⟩

end Go.Proofs.Qxb6601047a
