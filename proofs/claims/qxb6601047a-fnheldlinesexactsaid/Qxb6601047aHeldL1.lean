/-
  The walk of heldLines (function 32).
-/
import Derived.Test.Qxb6601047aHeldMap
import Derived.Maps.AppendAt
namespace Go.Proofs.Qxb6601047a
open Go.RowKit Go.Maps
set_option linter.unusedSimpArgs false
set_option linter.unusedVariables false

def child : Code → Nat → Code
  | .seq a _, 0 => a
  | .seq _ b, _ => b
  | .cond _ a _, 0 => a
  | .cond _ _ b, _ => b
  | .block _ c, _ => c
  | .loop c, _ => c
  | c, _ => c
def sub : List Nat → Code → Code
  | [], c => c
  | i :: p, c => sub p (child c i)
def slot (a : Act) (i : Nat) : Value := a.tmps.toList.getD i undef

theorem wp_mid {P : Program} {Q : Exit → Act → World → Prop} {a : Act} {w : World} {x y : Code} (R : Act → World → Prop)
    (h : x.wp P (Exit.then R Q) a w) (h2 : ∀ a w, R a w → y.wp P Q a w) : (Code.seq x y).wp P Q a w :=
  wp_seq (wp_mono h (fun e a w hq => by cases e <;> first | exact h2 _ _ hq | exact hq))

def Wp32 (p : List Nat) (Q : Exit → Act → World → Prop) (a : Act) (w : World) : Prop := (sub p (Try.f32.body.getD .skip)).wp Try.prog Q a w

set_option maxRecDepth 100000 in
def Fr105 (s : Nat → Value) : Act := ⟨#[s 0, s 1, s 2, s 3, s 4, s 5, s 6, s 7, s 8, s 9, s 10, s 11, s 12, s 13, s 14, s 15, s 16, s 17, s 18, s 19, s 20, s 21, s 22, s 23, s 24, s 25, s 26, s 27, s 28, s 29, s 30, s 31, s 32, s 33, s 34, s 35, s 36, s 37, s 38, s 39, s 40, s 41, s 42, s 43, s 44, s 45, s 46, s 47, s 48, s 49, s 50, s 51, s 52, s 53, s 54, s 55, s 56, s 57, s 58, s 59, s 60, s 61, s 62, s 63, s 64, s 65, s 66, s 67, s 68, s 69, s 70, s 71, s 72, s 73, s 74, s 75, s 76, s 77, s 78, s 79, s 80, s 81, s 82, s 83, s 84, s 85, s 86, s 87, s 88, s 89, s 90, s 91, s 92, s 93, s 94, s 95, s 96, s 97, s 98, s 99, s 100, s 101, s 102, s 103, s 104], []⟩

def Ok105 (a : Act) : Prop := a.tmps.size = 105 ∧ a.defers = []

set_option maxRecDepth 100000 in
theorem Fr105_eq (s : Nat → Value) : Fr105 s = ⟨((List.range 105).map s).toArray, []⟩ := rfl

theorem Fr105_of {a : Act} (h : Ok105 a) : a = Fr105 (slot a) := by
  rw [Fr105_eq]
  obtain ⟨h1, h2⟩ := h
  obtain ⟨t, d⟩ := a
  simp only at h1 h2
  subst h2
  congr 1
  apply Array.ext'
  apply List.ext_getElem?
  intro j
  by_cases hj : j < 105
  · rw [List.getElem?_map, List.getElem?_range hj]
    simp [slot, List.getD, h1, hj]
  · rw [List.getElem?_eq_none (by simp; omega), List.getElem?_eq_none (by simp; omega)]


/-- where a call of heldLines stands: the slices; the blocks of the map and of 'numbered'; the lines; the world at its begin -/
structure Hx where
  (ad bd : Option Addr)
  (ba oa n ca bb ob m cb bm bN : Nat)
  (A B : Nat → ByteArray)
  (w0 : World)

structure Hx.Fits (c : Hx) : Prop where
  hn : c.n ≤ 4096
  hm : c.m ≤ 4096
  la : Lines c.w0 c.ad c.ba c.oa c.n c.A
  lb : Lines c.w0 c.bd c.bb c.ob c.m c.B
  sa : ∀ i, i < c.n → (c.A i).size ≤ maxLen
  sb : ∀ i, i < c.m → (c.B i).size ≤ maxLen
  m0 : c.w0.heap.size ≤ c.bm
  m1 : c.bm < c.bN

def numV (A : Nat → ByteArray) (n i : Nat) : Nat → Value := fun j => .int .i64 (if j < i then (Held.num A n (A j) : Int) else 0)
theorem numV_upd (A : Nat → ByteArray) (n i : Nat) : upd (numV A n i) i (.int .i64 (Held.num A n (A i))) = numV A n (i + 1) := by
  funext j
  simp only [upd, numV]
  by_cases h : j = i
  · subst h; simp
  · by_cases h2 : j < i
    · rw [if_neg h, if_pos h2, if_pos (by omega)]
    · rw [if_neg h, if_neg h2, if_neg (by omega)]

theorem num_stable {A : Nat → ByteArray} {i n : Nat} {s : ByteArray} (h : Held.isIn A i s = true) (hn : i ≤ n) : Held.num A n s = Held.num A i s := by
  unfold Held.isIn at h
  cases hj : Held.idx A s i with
  | none => rw [hj] at h; cases h
  | some j => rw [Held.num_of hj, Held.num_of (Held.idx_more hj hn)]
theorem num_new {A : Nat → ByteArray} {i n : Nat} (h : Held.isIn A i (A i) = false) (hn : i < n) : Held.num A n (A i) = Held.dc A i := by
  have hnone : Held.idx A (A i) i = none := by
    unfold Held.isIn at h
    cases hj : Held.idx A (A i) i with
    | none => rfl
    | some j => rw [hj] at h; cases h
  exact Held.num_of (Held.idx_of hn rfl (Held.idx_none hnone))

structure SH1 (c : Hx) (a : Act) : Prop where
  ok : Ok105 a
  s1 : slot a 1 = .slice c.bd c.m c.cb
  s4 : slot a 4 = .slice none 0 0
  s5 : slot a 5 = .slice none 0 0
  s6 : slot a 6 = .slice none 0 0
  s7 : slot a 7 = .slice none 0 0
  s8 : slot a 8 = .map (some c.bm)
  s9 : slot a 9 = .slice (some ⟨c.bN, 0, none⟩) c.n c.n

set_option maxRecDepth 100000 in
set_option maxHeartbeats 1000000 in
theorem loopH1 {c : Hx} (hc : c.Fits) {w : World} {a : Act} {Q : Exit → Act → World → Prop}
    (hS : SH1 c a) (s27 : slot a 27 = .slice c.ad c.n c.ca) (s28 : slot a 28 = .int .i64 c.n) (s29 : slot a 29 = .int .i64 0)
    (hM : MapOk w c.bm c.A 0) (hR : Row w c.bN 3 c.n (numV c.A c.n 0)) (hB : Below c.w0.heap.size c.w0 w)
    (hQ : ∀ a' w', SH1 c a' → MapOk w' c.bm c.A c.n → Row w' c.bN 3 c.n (numV c.A c.n c.n) → Below c.w0.heap.size c.w0 w' → Q (.exit 0) a' w') : Wp32 [1, 1, 1, 0, 1, 0] Q a w := by
  unfold Wp32
  conv => arg 2; whnf
  have hn := hc.hn
  refine wp_loop (fun a w => ∃ i : Nat, i ≤ c.n ∧ SH1 c a ∧ slot a 27 = .slice c.ad c.n c.ca ∧ slot a 28 = .int .i64 c.n ∧ slot a 29 = .int .i64 i ∧ MapOk w c.bm c.A i ∧ Row w c.bN 3 c.n (numV c.A c.n i) ∧ Below c.w0.heap.size c.w0 w) (fun a _ => ((c.n : Int) - intOf (slot a 29)).toNat)
    ⟨0, Nat.zero_le _, hS, s27, s28, s29, hM, hR, hB⟩ ?_
  clear hS s27 s28 s29 hM hR hB w a
  rintro a w ⟨i, hi, hS, s27, s28, s29, hM, hR, hB⟩
  have hmu : intOf (slot a 29) = i := by rw [s29]; rfl
  rw [hmu]
  clear hmu
  obtain ⟨ok, s1, s4, s5, s6, s7, s8, s9⟩ := hS
  rw [Fr105_of ok]
  generalize slot a = s at *
  unfold Fr105
  simp only [s1, s4, s5, s6, s7, s8, s9, s27, s28, s29]
  clear s1 s4 s5 s6 s7 s8 s9 s27 s28 s29 ok
  by_cases hlt : i < c.n
  · obtain ⟨had, hbl⟩ := hc.la.at_ (by omega)
    rw [had]
    have g1 : w.cell? ⟨c.ba, c.oa + i, none⟩ = some (.string (c.A i)) := (hB.cell (by exact hbl)).trans (hc.la.cell i hlt)
    have hlook := hM.look (c.A i) (hc.sa i hlt)
    have g2 : w.cell? ⟨c.bN, i, none⟩ = some (.int .i64 (if i < i then (Held.num c.A c.n (c.A i) : Int) else 0)) := hR.cell i hlt
    rw [if_neg (Nat.lt_irrefl i)] at g2
    have g3 := hR.free i
    have hmN := hc.m1
    have hm0 := hc.m0
    cases hin : Held.isIn c.A i (c.A i) with
    | true =>
      rw [hin, ← num_stable hin (Nat.le_of_lt hlt)] at hlook
      have hM' := (hM.same hin).setCell (a := ⟨c.bN, i, none⟩) (by show c.bm ≠ c.bN; omega) (.int .i64 (Held.num c.A c.n (c.A i)))
      have hR' : Row (w.setCell ⟨c.bN, i, none⟩ (.int .i64 (Held.num c.A c.n (c.A i)))) c.bN 3 c.n (numV c.A c.n (i + 1)) := by
        have := hR.set i (.int .i64 (Held.num c.A c.n (c.A i))); rw [numV_upd] at this; exact this
      have hB' : Below c.w0.heap.size c.w0 (w.setCell ⟨c.bN, i, none⟩ (.int .i64 (Held.num c.A c.n (c.A i)))) := hB.setCell (by show c.w0.heap.size ≤ c.bN; omega) _
      clear hM hR hB hin
      generalize (Held.num c.A c.n (c.A i) : Int) = z at *
      go_wp2
      refine ⟨⟨i + 1, by omega, ⟨⟨rfl, rfl⟩, rfl, rfl, rfl, rfl, rfl, rfl, rfl⟩, rfl, rfl, rfl, hM', hR', hB'⟩, ?_⟩
      · show ((c.n : Int) - intOf (Value.int .i64 ((i : Int) + 1))).toNat < _
        simp only [intOf]
        omega
    | false =>
      rw [hin] at hlook
      have hlen := hM.len 3
      have hdc := Held.dc_le c.A i
      obtain ⟨w1, hput, hM1, hg⟩ := hM.put (by omega) (hc.sa i hlt) hin
      have hR1 := hR.grown hg (by intro e; have := Option.some.inj e; omega)
      have hB1 := hB.grown hg (Nat.le_trans (Nat.le_refl _) hB.size) (fun k e => by cases e; exact hm0)
      have f2 : w1.cell? ⟨c.bN, i, none⟩ = some (.int .i64 (if i < i then (Held.num c.A c.n (c.A i) : Int) else 0)) := hR1.cell i hlt
      rw [if_neg (Nat.lt_irrefl i)] at f2
      have f3 := hR1.free i
      have hnum := num_new hin hlt
      have hM' := hM1.setCell (a := ⟨c.bN, i, none⟩) (by show c.bm ≠ c.bN; omega) (.int .i64 (Held.dc c.A i))
      have hR' : Row (w1.setCell ⟨c.bN, i, none⟩ (.int .i64 (Held.dc c.A i))) c.bN 3 c.n (numV c.A c.n (i + 1)) := by
        have := hR1.set i (.int .i64 (Held.num c.A c.n (c.A i))); rw [numV_upd, hnum] at this; exact this
      have hB' : Below c.w0.heap.size c.w0 (w1.setCell ⟨c.bN, i, none⟩ (.int .i64 (Held.dc c.A i))) := hB1.setCell (by show c.w0.heap.size ≤ c.bN; omega) _
      clear hM hR hB hin hM1 hR1 hB1 hnum g2 g3 hg
      generalize (Held.dc c.A i : Int) = z at *
      go_wp2
      refine ⟨⟨i + 1, by omega, ⟨⟨rfl, rfl⟩, rfl, rfl, rfl, rfl, rfl, rfl, rfl⟩, rfl, rfl, rfl, hM', hR', hB'⟩, ?_⟩
      · show ((c.n : Int) - intOf (Value.int .i64 ((i : Int) + 1))).toNat < _
        simp only [intOf]
        omega
  · obtain rfl : i = c.n := by omega
    go_wp2
    exact hQ _ _ ⟨⟨rfl, rfl⟩, rfl, rfl, rfl, rfl, rfl, rfl, rfl⟩ hM hR hB

end Go.Proofs.Qxb6601047a
