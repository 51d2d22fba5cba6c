/-
  Rows of cells that a call owns: plain lemmas on worlds, no program in sight.
-/
import Derived.WalkKit
import Derived.WalkSpells
import Derived.WalkLawsBesides
namespace Go.Proofs.Qxb6601573a
open Go.RowKit
set_option linter.unusedSimpArgs false
set_option linter.unusedVariables false

/-- Block b is a row of n cells of element type e, cell i holds V i, none is frozen. -/
def Row (w : World) (b : Nat) (e : TypeId) (n : Nat) (V : Nat → Value) : Prop :=
  w.heap[b]? = some (.cells ((List.range n).map V).toArray e (0, 0))

def upd {α : Type} (V : Nat → α) (i : Nat) (v : α) : Nat → α := fun j => if j = i then v else V j
theorem upd_same {α : Type} (V : Nat → α) (i : Nat) (v : α) : upd V i v i = v := by simp [upd]
theorem upd_other {α : Type} (V : Nat → α) (i j : Nat) (v : α) (h : j ≠ i) : upd V i v j = V j := by simp [upd, h]

def ints (A : Nat → Int) : Nat → Value := fun i => .int .i64 (A i)
theorem ints_upd (A : Nat → Int) (i : Nat) (z : Int) : upd (ints A) i (.int .i64 z) = ints (upd A i z) := by
  funext j; simp only [upd, ints]; split <;> rfl

section
variable {w w' : World} {b e n : Nat} {V V' : Nat → Value}

theorem Row.cell (h : Row w b e n V) (i : Nat) (hi : i < n) : w.cell? ⟨b, i, none⟩ = some (V i) := by
  rw [cell_of_row w b i _ e (0, 0) h]
  simp [hi]

theorem Row.free (h : Row w b e n V) (i : Nat) : w.frozen? ⟨b, i, none⟩ = false := frozen_of_row w b i _ e h

theorem Row.lt (h : Row w b e n V) : b < w.heap.size := (Array.getElem?_eq_some_iff.1 h).1

theorem Row.congr (h : Row w b e n V) (hv : ∀ i, i < n → V i = V' i) : Row w b e n V' := by
  unfold Row at h ⊢
  rw [h]
  have : (List.range n).map V = (List.range n).map V' := List.map_congr_left (fun i hi => hv i (List.mem_range.1 hi))
  rw [this]

theorem Row.set (h : Row w b e n V) (i : Nat) (v : Value) : Row (w.setCell ⟨b, i, none⟩ v) b e n (upd V i v) := by
  unfold Row
  rw [heap_setCell_same w b i _ e v h]
  congr 2
  apply Array.ext'
  simp only [Array.toList_setIfInBounds]
  apply List.ext_getElem?
  intro j
  rw [List.getElem?_set]
  simp only [List.length_map, List.length_range, List.getElem?_map, List.getElem?_range, upd]
  by_cases hj : i = j
  · subst hj
    by_cases hn : i < n
    · rw [if_pos rfl, if_pos hn, List.getElem?_range hn]; simp [upd]
    · rw [if_pos rfl, if_neg hn, List.getElem?_eq_none (by simpa using hn)]; rfl
  · have hj' : ¬ j = i := fun h => hj h.symm
    simp only [hj, if_false]
    by_cases hn : j < n
    · rw [List.getElem?_range hn]; simp [upd, hj']
    · rw [List.getElem?_eq_none (by simpa using hn)]; rfl

theorem Row.other (h : Row w b e n V) (a : Addr) (v : Value) (hne : b ≠ a.block) : Row (w.setCell a v) b e n V := by
  unfold Row
  rw [heap_setCell_other w a b v hne]
  exact h

theorem Row.drew (h : Row w b e n V) : Row w.drew b e n V := h

theorem Row.alloc (h : Row w b e n V) (o : Obj) : Row (w.alloc o) b e n V := by
  unfold Row
  rw [Go.heap_alloc_old w o h.lt]
  exact h

theorem Row.below {B : Nat} (h : Row w b e n V) (hb : Below B w w') (hlt : b < B) : Row w' b e n V := by
  unfold Row
  rw [hb.block b hlt]
  exact h

theorem Row.grown {row : Option Nat} (h : Row w b e n V) (hg : w.grownBy w' row) (hne : some b ≠ row) : Row w' b e n V := by
  unfold Row
  rw [hg.block b h.lt hne]
  exact h

theorem Row.of_owns {base g : Nat} {xs : List Value} (h : w.ownsRow base e 1 (.slice (some ⟨g, 0, none⟩) n n) n xs) (hx : ∀ i, i < n → xs[i]? = some (V i)) : Row w g e n V := by
  obtain ⟨h1, h2⟩ := h
  rcases h2 with ⟨h2, _⟩ | ⟨g', cap, cur, hv, _, hh, hnc, _, hs, ht⟩
  · simp at h2
  · simp only [Value.slice.injEq, Option.some.injEq, Addr.mk.injEq, and_true, true_and] at hv
    obtain ⟨rfl, rfl⟩ := hv
    unfold Row
    rw [hh]
    congr 2
    apply Array.ext'
    rw [List.take_of_length_le (by rw [Array.length_toList]; omega)] at ht
    rw [ht]
    apply List.ext_getElem?
    intro j
    by_cases hj : j < n
    · rw [hx j hj]; simp [hj]
    · rw [List.getElem?_eq_none (by omega), List.getElem?_eq_none (by simpa using hj)]

end

/-- A slice that was read: the first n cells from ⟨b, off⟩ on. -/
def Reads (w : World) (b off n : Nat) (V : Nat → Value) : Prop := ∀ i, i < n → w.cell? ⟨b, off + i, none⟩ = some (V i)

theorem Reads.below {w w' : World} {b off n B : Nat} {V : Nat → Value} (h : Reads w b off n V) (hb : Below B w w') (hlt : b < B) : Reads w' b off n V :=
  fun i hi => (hb.cell (by exact hlt)).trans (h i hi)

theorem Row.reads {w : World} {b e n : Nat} {V : Nat → Value} (h : Row w b e n V) : Reads w b 0 n V := fun i hi => by rw [Nat.zero_add]; exact h.cell i hi

end Go.Proofs.Qxb6601573a
