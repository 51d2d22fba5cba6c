/-
  The map 'numbers' of heldLines, by what it holds.
-/
import Derived.Test.Qxb6601047aHeldClone
import Derived.Maps.OwnSet
import Derived.StringKeys
namespace Go.Proofs.Qxb6601047a
open Go.RowKit Go.Maps Go.WideMaps
set_option linter.unusedSimpArgs false
set_option linter.unusedVariables false

theorem klaw : Keyed Try.prog 9 := string_keyed Try.underlying9
theorem zero3 (w : World) : (zeroValue 3).run Try.prog w = .ok (.int .i64 0) w := by kernel_rfl

def strL (s : ByteArray) : Lit := .string s.data.toList

/-- Block b is the map of the first k lines of A to their numbers. -/
def MapOk (w : World) (b : Nat) (A : Nat → ByteArray) (k : Nat) : Prop :=
  ∃ D : DataW Unit, w.ownsMap Try.prog 9 (plainElem Try.prog 3) b k D ∧ (∀ s : ByteArray, Maps.has D (strL s) = Held.isIn A k s ∧ D.atKey (strL s) (.lit (.int .i64 0)) = .lit (.int .i64 (Held.num A k s))) ∧ Maps.size D = Held.dc A k

theorem make44 (n : Nat) (hn : n ≤ 4096) (w : World) : (Instr.makeMap 44 (some (.int .i64 (n : Int)))).run Try.prog w = .ok (.map (some w.heap.size)) (w.alloc (.map #[] 0)) := by
  simp [Instr.makeMap, run_underlying Try.underlying44, go_sem]

theorem MapOk.made (w : World) (A : Nat → ByteArray) : MapOk (w.alloc (.map #[] 0)) w.heap.size A 0 := by
  refine ⟨.map [], World.ownsMap_made _ _ _ _, fun s => ⟨rfl, rfl⟩, rfl⟩

theorem keyS {s : ByteArray} (hs : s.size ≤ maxLen) : keyOf Try.prog 9 (.string s) = some (strL s) := keyOf_string_mk Try.underlying9 hs

theorem MapOk.look {w : World} {b : Nat} {A : Nat → ByteArray} {k : Nat} (h : MapOk w b A k) (s : ByteArray) (hs : s.size ≤ maxLen) :
    (Instr.lookup 44 (.map (some b)) (.string s) true).run Try.prog w = .ok (.tuple #[.int .i64 (Held.num A k s), .bool (Held.isIn A k s)]) w := by
  obtain ⟨D, ho, hD, _⟩ := h
  obtain ⟨v, ps, hrun, hv⟩ := ho.look_ok klaw Try.underlying44 (zero3 w) (plainElem_int Try.underlying3 (by decide)) (keyS hs)
  obtain ⟨c, rfl, hc, _⟩ := plainElem_int_inv Try.underlying3 hv
  rw [hrun, (hD s).1]
  have : D.atKey (strL s) (.lit (.int .i64 0)) = .lit (.int .i64 c) := (Prod.mk.inj hc).1
  rw [(hD s).2] at this
  injection this with e
  injection e with _ e2
  rw [e2]

theorem MapOk.len {w : World} {b : Nat} {A : Nat → ByteArray} {k : Nat} (h : MapOk w b A k) (ty : TypeId) :
    (Builtin.len_ #[44] ty #[.map (some b)]).run Try.prog w = .ok (.int .i64 (Held.dc A k)) w := by
  obtain ⟨D, ho, _, hz⟩ := h
  rw [ho.len Try.underlying44 ty, hz]

theorem strL_inj {s t : ByteArray} (h : strL s = strL t) : s = t := by
  unfold strL at h
  injection h with h
  cases s with | mk a => cases t with | mk b => simp only at h; congr 1; exact Array.ext' h

theorem idx_succ_old {A : Nat → ByteArray} {k j : Nat} (hj : Held.idx A (A k) k = some j) (s : ByteArray) : Held.idx A s (k + 1) = Held.idx A s k := by
  cases h : Held.idx A s k with
  | some i => exact Held.idx_more h (Nat.le_succ _)
  | none =>
    refine Held.idx_none_of (fun i hi e => ?_)
    by_cases he : i = k
    · subst he
      obtain ⟨h1, h2, _⟩ := Held.idx_some hj
      exact Held.idx_none h j h1 (h2.trans e)
    · exact Held.idx_none h i (by omega) e

theorem idx_succ_new {A : Nat → ByteArray} {k : Nat} (s : ByteArray) (hs : ¬ s = A k) : Held.idx A s (k + 1) = Held.idx A s k := by
  cases h : Held.idx A s k with
  | some i => exact Held.idx_more h (Nat.le_succ _)
  | none =>
    refine Held.idx_none_of (fun i hi e => ?_)
    by_cases he : i = k
    · subst he; exact hs e.symm
    · exact Held.idx_none h i (by omega) e

/-- a line that is there already -/
theorem MapOk.same {w : World} {b : Nat} {A : Nat → ByteArray} {k : Nat} (h : MapOk w b A k) (hin : Held.isIn A k (A k) = true) : MapOk w b A (k + 1) := by
  obtain ⟨D, ho, hD, hz⟩ := h
  unfold Held.isIn at hin
  cases hj : Held.idx A (A k) k with
  | none => rw [hj] at hin; cases hin
  | some j =>
    refine ⟨D, ho.mono (Nat.le_succ _), fun s => ?_, ?_⟩
    · have := hD s
      unfold Held.isIn Held.num at *
      rw [idx_succ_old hj s]
      exact this
    · rw [Held.dc_old hj]; exact hz

/-- a new line gets the next number -/
theorem MapOk.put {w : World} {b : Nat} {A : Nat → ByteArray} {k : Nat} (h : MapOk w b A k) (hk : k < 4096) (hs : (A k).size ≤ maxLen) (hout : Held.isIn A k (A k) = false) :
    ∃ w', (Instr.mapUpdate 44 (.map (some b)) (.string (A k)) (.int .i64 (Held.dc A k))).run Try.prog w = .ok () w' ∧ MapOk w' b A (k + 1) ∧ w.grownBy w' (some b) := by
  obtain ⟨D, ho, hD, hz⟩ := h
  have hle := Held.dc_le A k
  obtain ⟨w', hrun, ho', hg⟩ := ho.update klaw Try.underlying44 (by unfold maxLen; omega) (keyS hs) (plainElem_int (a := (Held.dc A k : Int)) Try.underlying3 (WalkArith.wf_i64 (by omega)))
  have hnone : Held.idx A (A k) k = none := by
    unfold Held.isIn at hout
    cases h : Held.idx A (A k) k with
    | none => rfl
    | some j => rw [h] at hout; cases hout
  have hnew : ∀ i, i < k → A i ≠ A k := Held.idx_none hnone
  have hidx : Held.idx A (A k) (k + 1) = some k := Held.idx_of (Nat.lt_succ_self _) rfl hnew
  refine ⟨w', hrun, ⟨_, ho', fun s => ?_, ?_⟩, hg⟩
  · by_cases e : s = A k
    · subst e
      refine ⟨?_, ?_⟩
      · rw [Maps.has_put_same (k := strL (A k)) ho.isMap (by unfold strL; exact trivial)]
        unfold Held.isIn; rw [hidx]; rfl
      · rw [Maps.atKey_put_same (k := strL (A k)) ho.isMap (by unfold strL; exact trivial)]
        rw [Held.num_of hidx]
    · have hne : strL s ≠ strL (A k) := fun h => e (strL_inj h)
      have := hD s
      rw [Maps.has_put_other hne, Maps.atKey_put_other hne]
      unfold Held.isIn Held.num at *
      rw [idx_succ_new s e]
      exact this
  · rw [Maps.size_put (ho.tidy klaw), (hD (A k)).1, hout]
    rw [Held.dc_new hnew, hz]
    rfl

theorem MapOk.kept {w w' : World} {b : Nat} {A : Nat → ByteArray} {k : Nat} {row : Option Nat} (h : MapOk w b A k) (hg : w.grownBy w' row) (hne : some b ≠ row) : MapOk w' b A k := by
  obtain ⟨D, ho, r⟩ := h
  exact ⟨D, ho.kept hg hne, r⟩
theorem MapOk.setCell {w : World} {b : Nat} {A : Nat → ByteArray} {k : Nat} (h : MapOk w b A k) {a : Addr} (ha : b ≠ a.block) (u : Value) : MapOk (w.setCell a u) b A k := by
  obtain ⟨D, ho, r⟩ := h
  exact ⟨D, ho.setCell ha u, r⟩
theorem MapOk.below {w w' : World} {b B : Nat} {A : Nat → ByteArray} {k : Nat} (h : MapOk w b A k) (hb : Below B w w') (hlt : b < B) : MapOk w' b A k := by
  obtain ⟨D, ⟨es, cl, h1, h2⟩, r⟩ := h
  exact ⟨D, ⟨es, cl, by rw [hb.block b hlt]; exact h1, h2⟩, r⟩
theorem MapOk.lt {w : World} {b : Nat} {A : Nat → ByteArray} {k : Nat} (h : MapOk w b A k) : b < w.heap.size := by
  obtain ⟨D, ho, _⟩ := h
  exact ho.lt

end Go.Proofs.Qxb6601047a
