/-
  A buffer of bytes of the call's own, carried from append to append; nothing else that was there turns.
-/
import Derived.Test.Qxb6601573aRows
import Derived.Test.Qxb6601573aRowLib
import Derived.Maps.AppendAt
import Derived.Lib.AppendStr
namespace Go.Proofs.Qxb6601573a
open Go.RowKit
set_option linter.unusedSimpArgs false
set_option linter.unusedVariables false

theorem info5 : (Try.prog.info? 5).map (fun i => (i.zero, i.size, i.bytes)) = some (some (.int .u8 0), 1, 1) := by kernel_rfl
theorem info9 : (Try.prog.info? 9).map (fun i => (i.zero, i.size, i.bytes)) = some (some (.string ByteArray.empty), 1, 16) := by kernel_rfl

def u8s (l : List Int) : List Value := l.map (Value.int .u8)
/-- a string's bytes -/
def bs (s : ByteArray) : List Int := s.data.toList.map fun b => (b.toNat : Int)
theorem bs_length (s : ByteArray) : (bs s).length = s.size := by simp [bs]
theorem strCells_bs (s : ByteArray) : Lib.strCells s = u8s (bs s) := by simp [Lib.strCells, u8s, bs]

/-- v is nil or heads a row of the call's own that holds l -/
def Buf (w : World) (v : Value) (l : List Int) : Prop := w.ownsRow 0 5 1 v l.length (u8s l)

/-- from W on only the row o was written, and v lies there or in a new block -/
structure Evo (o : Option Nat) (W w : World) (v : Value) : Prop where
  grown : W.grownBy w o
  here : v.ownBlock = o ∨ ∃ k, v.ownBlock = some k ∧ W.heap.size ≤ k

theorem Evo.refl (w : World) (v : Value) : Evo v.ownBlock w w v := ⟨⟨rfl, rfl, rfl, Nat.le_refl _, fun _ _ _ => rfl⟩, .inl rfl⟩

theorem grownBy_alloc (w : World) (o : Obj) (r : Option Nat) : w.grownBy (w.alloc o) r := ⟨rfl, rfl, rfl, by simp, fun k hk _ => (by first | exact heap_alloc_old w o k hk | exact heap_alloc_old w o hk)⟩

theorem Evo.step {o : Option Nat} {W w w1 w' : World} {v v' : Value} (h : Evo o W w v) (ha : w.grownBy w1 none) (hg : w1.grownBy w' v.ownBlock) (hat : v'.ownBlock = v.ownBlock ∨ v'.ownBlock = some w1.heap.size) : Evo o W w' v' := by
  have s1 := h.grown.size
  have s2 := ha.size
  have s3 := hg.size
  refine ⟨⟨hg.os.trans (ha.os.trans h.grown.os), hg.tape.trans (ha.tape.trans h.grown.tape), hg.output.trans (ha.output.trans h.grown.output), by omega, fun k hk hne => ?_⟩, ?_⟩
  · rw [hg.block k (by omega) ?_, ha.block k (by omega) (by simp), h.grown.block k hk hne]
    rcases h.here with e | ⟨j, e, hj⟩
    · rw [e]; exact hne
    · rw [e]
      intro e2
      have := Option.some.inj e2
      omega
  · rcases hat with e | e
    · rw [e]; exact h.here
    · exact .inr ⟨_, e, by omega⟩

theorem Evo.trans {o : Option Nat} {W w w' : World} {v v' : Value} (h : Evo o W w v) (k : Evo v.ownBlock w w' v') : Evo o W w' v' := by
  have s1 := h.grown.size
  refine ⟨⟨k.grown.os.trans h.grown.os, k.grown.tape.trans h.grown.tape, k.grown.output.trans h.grown.output, Nat.le_trans s1 k.grown.size, fun j hj hne => ?_⟩, ?_⟩
  · rw [k.grown.block j (by omega) ?_, h.grown.block j hj hne]
    rcases h.here with e | ⟨i, e, hi⟩
    · rw [e]; exact hne
    · rw [e]
      intro e2
      have := Option.some.inj e2
      omega
  · rcases k.here with e | ⟨i, e, hi⟩
    · rw [e]; exact h.here
    · exact .inr ⟨i, e, by omega⟩

theorem Evo.cell {o : Option Nat} {W w : World} {v : Value} (h : Evo o W w v) {b i : Nat} {x : Value} (hx : W.cell? ⟨b, i, none⟩ = some x) (hne : some b ≠ o) : w.cell? ⟨b, i, none⟩ = some x :=
  (World.cell?_of_block (h.grown.block b (World.block_lt_of_cell? W ⟨b, i, none⟩ hx) hne)).trans hx

section
variable {ops : Array Oper} {rest : List Oper} {op : Oper} {a : Act} {Q : Exit → Act → World → Prop}

/-- 'buf = append(buf, c)' -/
theorem app_byte (hgd : op.guard = none) (s x : Operand) (ho : op.op = .call { callee := .builtin .append, args := #[s, x], argTypes := #[22, 22] })
    (v : Value) (l : List Int) (o : Option Nat) (W w : World) (c : Int) (hs : a.eval s = v) (hx : a.eval x = .slice (some ⟨w.heap.size, 0, none⟩) 1 1)
    (hb : Buf w v l) (he : Evo o W w v) (hlen : l.length + 1 ≤ 1099511627776)
    (h : ∀ v' w', Buf w' v' (l ++ [c]) → Evo o W w' v' → wpList Try.prog ops Q rest (a.put op.dst v') w') : wpList Try.prog ops Q (op :: rest) a (w.alloc (.cells #[.int .u8 c] 5)) := by
  obtain ⟨i0, hi, hz0, hz1, hz2⟩ := info_parts info5
  have hb' : (w.alloc (.cells #[.int .u8 c] 5)).ownsRow 0 5 1 v l.length (u8s l) := hb.alloc _
  refine wpList_append_own_at _ hgd s x 22 ho 0 5 i0 (.int .u8 0) 1 1 Try.underlying22 hi hz0 hz1 hz2 rfl (by decide) v l.length (u8s l) hs hb' ⟨w.heap.size, 0, none⟩ 1 1 [.int .u8 c] hx rfl (cell_one_new _ _ _) (by intro u hu; simp at hu; subst hu; rfl) (by unfold maxLen; omega) (by omega) (Nat.zero_le _) ?_
  intro v' w' h1 h2 _ h4
  refine h v' w' ?_ (he.step (grownBy_alloc w _ none) h2 h4)
  unfold Buf
  rw [List.length_append]
  unfold u8s
  rw [List.map_append]
  exact h1

theorem text_at {w w' : World} {v v' : Value} {l : List Int} {i0 : TypeInfo} {ty : TypeId} (hi : Try.prog.info? 5 = some i0) (hz0 : i0.zero = some (.int .u8 0)) (hz1 : i0.size = 1) (hz2 : i0.bytes = 1) (hb : Buf w v l) (s : ByteArray) (hlen : l.length + s.size ≤ 1099511627776)
    (hr : (Builtin.append_ #[22, 9] ty #[v, .string s]).run Try.prog w = .ok v' w') (hnil : v' = .slice none 0 0 ↔ v = .slice none 0 0 ∧ s.size = 0) : v'.ownBlock = v.ownBlock ∨ v'.ownBlock = some w.heap.size := by
  rcases hb.2 with ⟨rfl, hn⟩ | ⟨g, cap, cur, rfl, _, hg, hnc, hcm, hcs, htake⟩
  · by_cases hm : s.size = 0
    · left; rw [hnil.2 ⟨rfl, hm⟩]
    · right
      have hr2 := run_append_nil_string (P := Try.prog) w 22 9 ty 5 i0 (.int .u8 0) Try.underlying22 Try.underlying9 hi hz0 s (by omega) (by omega) (by rw [hz2]; omega)
      rw [hr2] at hr
      cases hr
      rfl
  · by_cases hroom : l.length + s.size ≤ cap
    · left
      have hr2 := Lib.run_append_room_string (P := Try.prog) w 22 9 ty 5 i0 Try.underlying22 Try.underlying9 hi hz1 g l.length cap cur hg s hroom (by omega)
      rw [hr2] at hr
      cases hr
      rfl
    · right
      have holds : ∀ j u, (u8s l)[j]? = some u → w.cell? ((⟨g, 0, none⟩ : Addr).add j) = some u := World.ownsRow.cells hb (g := g) rfl
      have hr2 := Lib.run_append_grow_string (P := Try.prog) w 22 9 ty 5 i0 (.int .u8 0) Try.underlying22 Try.underlying9 hi hz0 ⟨g, 0, none⟩ l.length cap (u8s l) (by rw [hz1]; simpa using hb.1) holds s (by omega) (by omega) (by rw [hz2]; exact growslice_fits (by omega) (by omega))
      rw [hr2] at hr
      cases hr
      rfl

/-- 'buf = append(buf, s...)' -/
theorem app_text (hgd : op.guard = none) (sl x : Operand) (ho : op.op = .call { callee := .builtin .append, args := #[sl, x], argTypes := #[22, 9] })
    (v : Value) (l : List Int) (o : Option Nat) (W w : World) (s : ByteArray) (hs : a.eval sl = v) (hx : a.eval x = .string s)
    (hb : Buf w v l) (he : Evo o W w v) (hlen : l.length + s.size ≤ 1099511627776)
    (h : ∀ v' w', Buf w' v' (l ++ bs s) → Evo o W w' v' → wpList Try.prog ops Q rest (a.put op.dst v') w') : wpList Try.prog ops Q (op :: rest) a w := by
  obtain ⟨i0, hi, hz0, hz1, hz2⟩ := info_parts info5
  refine wpList_plain hgd fun K hK => ?_
  obtain ⟨v', w', hr, h2, h3, h4⟩ := Lib.run_append_own_string (P := Try.prog) w 0 22 9 op.type 5 i0 Try.underlying22 Try.underlying9 hi hz0 hz1 hz2 v l.length (u8s l) hb s (by unfold maxLen; omega) (by omega) (Nat.zero_le _)
  have h5 := text_at hi hz0 hz1 hz2 hb s hlen hr h4
  unfold Oper.wp execOp
  simp only [ho, resolve, invoke, builtin, Sem.run_bind, Sem.run_pure, Result.andThen_ok, List.map_toArray, List.map_cons, List.map_nil, hs, hx, hr]
  refine hK _ _ (h v' w' ?_ (he.step (w1 := w) ⟨rfl, rfl, rfl, Nat.le_refl _, fun _ _ _ => rfl⟩ h3 h5))
  unfold Buf
  rw [List.length_append, bs_length]
  rw [strCells_bs] at h2
  unfold u8s at h2 ⊢
  rw [List.map_append]
  exact h2
end
