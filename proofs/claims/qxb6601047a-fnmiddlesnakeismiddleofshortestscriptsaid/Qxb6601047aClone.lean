import Derived.Test.Qxb6601047aRows
import Derived.Test.Qxb6601047aRowLib
namespace Go.Proofs.Qxb6601047a
open Go.RowKit
set_option linter.unusedSimpArgs false
set_option linter.unusedVariables false

theorem Try.info3 : (Try.prog.info? 3).map (fun i => (i.zero, i.size, i.bytes)) = some (some (.int .i64 0), 1, 8) := by kernel_rfl

def mixI (A : Nat → Int) (k : Nat) : Nat → Int := fun i => if i < k then A i else 0
theorem mixI_at (A : Nat → Int) (k : Nat) : mixI A k k = 0 := by simp [mixI]
theorem mixI_upd (A : Nat → Int) (k : Nat) : upd (mixI A k) k (A k) = mixI A (k + 1) := by
  funext j
  simp only [upd, mixI]
  by_cases h : j = k
  · subst h; simp
  · by_cases h2 : j < k
    · rw [if_neg h, if_pos h2, if_pos (by omega)]
    · rw [if_neg h, if_neg h2, if_neg (by omega)]

set_option maxHeartbeats 400000 in
theorem cloneInts_any (b off n c : Nat) (A : Nat → Int) (w : World) (hx : b < w.heap.size) (hn : n ≤ 1048576)
    (hc : Reads w b off n (ints A)) :
    Calls Try.prog 25 #[.slice (some ⟨b, off, none⟩) n c] w fun e w' => e = .returned (.slice (some ⟨w.heap.size, 0, none⟩) n n) ∧
      Row w' w.heap.size 3 n (ints A) ∧ Below w.heap.size w w' := by
  have q30 : ∀ (w : World) (a : Option Addr) (n c n' c' : Nat), _ := fun w a n c n' c' => Lib.run_eql_slice_nil (P := Try.prog) w 30 3 a n c n' c' Try.underlying30
  obtain ⟨i0, hi, hz0, hz1, hz2⟩ := info_parts Try.info3
  go_enter Try.func25, Try.ntmps25
  go_wp2_with (at_make; refine wpList_make_full _ rfl _ _ 30 rfl w.heap.size 3 i0 (.int .i64 0) 1 Try.underlying30 hi hz0 hz1 _ _ _ _ n rfl rfl rfl rfl ?b2 ?b3 (Nat.le_refl _) ?_)
  case b2 => rw [hz2]; omega
  case b3 => unfold maxLen; omega
  intro w0 hown0 hgrow0
  rw [toList_madeCells_one] at hown0
  have hr0 : Row w0 w.heap.size 3 n (ints (mixI A 0)) := Row.of_owns hown0 (fun i hi => by simp [hi, ints, mixI])
  clear hown0
  go_wp2
  go_loopw [4] (fun i wr => ∃ k : Nat, k ≤ n ∧ i = .int .i64 k ∧ Row wr w.heap.size 3 n (ints (mixI A k)) ∧ Below w.heap.size w wr)
    (fun i _ => n - (intOf i).toNat)
  case atStart => exact ⟨0, Nat.zero_le _, rfl, hr0, (Below.refl _ _).grown hgrow0 (Nat.le_refl _) (fun k h => by cases h)⟩
  case round =>
    obtain ⟨k, hk, rfl, hown, hb⟩ := hrel
    by_cases hlt : k < n
    · have g1 : wr.cell? ⟨b, off + k, none⟩ = some (.int .i64 (A k)) := (hb.cell (by exact hx)).trans (hc k hlt)
      have g2 : wr.cell? ⟨w.heap.size, k, none⟩ = some (.int .i64 (mixI A k k)) := hown.cell k hlt
      have g3 := hown.free k
      have so : Row (wr.setCell ⟨w.heap.size, k, none⟩ (.int .i64 (A k))) w.heap.size 3 n (ints (mixI A (k + 1))) := by
        have := hown.set k (.int .i64 (A k)); rw [ints_upd, mixI_upd] at this; exact this
      have hb2 : Below w.heap.size w (wr.setCell ⟨w.heap.size, k, none⟩ (.int .i64 (A k))) := hb.setCell (by exact Nat.le_refl _) _
      clear hown
      go_wp2
      go_roundw
      case rel => exact ⟨k + 1, by omega, by go_num, so, hb2⟩
      case measure => simp [intOf]; omega
    · obtain rfl : k = n := by omega
      go_wp2
      go_ret
      exact ⟨rfl, hown.congr (fun i hi => by simp [ints, mixI, hi]), hb⟩
end Go.Proofs.Qxb6601047a
