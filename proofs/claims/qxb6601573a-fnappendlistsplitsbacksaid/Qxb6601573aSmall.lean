/-
  cloneBytes (8), sameBytes (11), zzBytes (7).
-/
import Derived.Test.Qxb6601573aApp
import Derived.Deep.QuietTactic
import Derived.BigQuiet
namespace Go.Proofs.Qxb6601573a
open Go.RowKit
set_option linter.unusedSimpArgs false
set_option linter.unusedVariables false

def u8V (l : List Int) : Nat → Value := fun i => .int .u8 (l.getD i 0)

/-- a slice of bytes: where there is one, its address is known and its cells lie there -/
structure Byts (w : World) (ad : Option Addr) (b off n : Nat) (l : List Int) : Prop where
  len : l.length = n
  at_ : 0 < n → ad = some ⟨b, off, none⟩
  cell : ∀ i, i < n → w.cell? ⟨b, off + i, none⟩ = some (.int .u8 (l.getD i 0))

theorem Buf.byts {w : World} {v : Value} {l : List Int} (h : Buf w v l) :
    ∃ ad g c, v = .slice ad l.length c ∧ Byts w ad g 0 l.length l ∧ (ad = none → l.length = 0 ∧ c = 0) ∧ (∀ k, v.ownBlock = some k → k = g) ∧ l.length ≤ maxLen := by
  obtain ⟨h1, h2⟩ := h
  rcases h2 with ⟨h2, h3⟩ | ⟨g, cap, cur, hv, _, hh, hnc, hcm, hs, ht⟩
  · have hl : l.length = 0 := h3
    refine ⟨none, 0, 0, by rw [h2, hl], ⟨rfl, fun h => by omega, fun i hi => by omega⟩, fun _ => ⟨hl, rfl⟩, (fun k hk => by rw [h2] at hk; cases hk), by omega⟩
  · refine ⟨_, g, cap, hv, ⟨rfl, fun _ => rfl, fun i hi => ?_⟩, (fun h => by cases h), fun k hk => ?_, by omega⟩
    · rw [Nat.zero_add, cell_of_row w g i cur 5 (0, 0) hh]
      have : (cur.toList.take (l.length * 1))[i]? = some (.int .u8 (l.getD i 0)) := by
        rw [ht]
        simp [u8s, List.getD, hi]
      rw [List.getElem?_take, if_pos (by omega)] at this
      simpa using this
    · rw [hv] at hk
      exact (Option.some.inj hk).symm

/-- the call gave a buffer of its own that holds l, in a new block; all that was there stands -/
def Fresh (l : List Int) (w : World) (e : Ending) (w' : World) : Prop :=
  ∃ v', e = .returned v' ∧ Buf w' v' l ∧ (∀ k, v'.ownBlock = some k → w.heap.size ≤ k) ∧ Below w.heap.size w w'

def mixB (l : List Int) (k : Nat) : Nat → Value := fun i => .int .u8 (if i < k then l.getD i 0 else 0)
theorem mixB_upd (l : List Int) (k : Nat) : upd (mixB l k) k (.int .u8 (l.getD k 0)) = mixB l (k + 1) := by
  funext j
  simp only [upd, mixB]
  by_cases h : j = k
  · subst h; simp
  · by_cases h2 : j < k
    · rw [if_neg h, if_pos h2, if_pos (by omega)]
    · rw [if_neg h, if_neg h2, if_neg (by omega)]

theorem Row.buf {w : World} {g n : Nat} {V : Nat → Value} {l : List Int} (h : Row w g 5 n V) (hl : l.length = n) (hv : ∀ i, i < n → V i = .int .u8 (l.getD i 0)) (hm : n ≤ maxLen) : Buf w (.slice (some ⟨g, 0, none⟩) n n) l := by
  subst hl
  refine ⟨by simp [u8s], .inr ⟨g, l.length, _, rfl, Nat.zero_le _, h, Nat.le_refl _, hm, by simp, ?_⟩⟩
  apply List.ext_getElem?
  intro i
  by_cases hi : i < l.length
  · simp [u8s, hi, hv i hi, List.getD]
  · simp [u8s, hi]

theorem clone_nil (w : World) : Calls Try.prog 8 #[.slice none 0 0] w (Fresh [] w) := by
  have q22 : ∀ (w : World) (a : Option Addr) (n c n' c' : Nat), _ := fun w a n c n' c' => Lib.run_eql_slice_nil (P := Try.prog) w 22 5 a n c n' c' Try.underlying22
  go_enter Try.func8, Try.ntmps8
  go_wp2
  go_ret
  exact ⟨_, rfl, World.ownsRow_nil w 0 5 1, (fun k h => by cases h), Below.refl _ _⟩

set_option maxHeartbeats 1000000 in
theorem clone_some (x : Addr) (b off n c : Nat) (l : List Int) (w : World) (hn : n ≤ 1099511627776) (hL : Byts w (some x) b off n l) :
    Calls Try.prog 8 #[.slice (some x) n c] w (Fresh l w) := by
  have q22 : ∀ (w : World) (a : Option Addr) (n c n' c' : Nat), _ := fun w a n c n' c' => Lib.run_eql_slice_nil (P := Try.prog) w 22 5 a n c n' c' Try.underlying22
  obtain ⟨i0, hi, hz0, hz1, hz2⟩ := info_parts info5
  go_enter Try.func8, Try.ntmps8
  go_wp2_with (at_make; refine wpList_make_full _ rfl _ _ 22 rfl w.heap.size 5 i0 (.int .u8 0) 1 Try.underlying22 hi hz0 hz1 _ _ _ _ n rfl rfl rfl rfl ?b2 ?b3 (Nat.le_refl _) ?_)
  case b2 => rw [hz2]; omega
  case b3 => unfold maxLen; omega
  intro w0 hown0 hgrow0
  rw [toList_madeCells_one] at hown0
  have hr0 : Row w0 w.heap.size 5 n (mixB l 0) := Row.of_owns hown0 (fun i hi => by simp [hi, mixB])
  clear hown0 hi hz0 hz1 hz2
  go_wp2
  go_loopw [4] (fun i wr => ∃ k : Nat, k ≤ n ∧ i = .int .i64 k ∧ Row wr w.heap.size 5 n (mixB l k) ∧ Below w.heap.size w wr)
    (fun i _ => n - (intOf i).toNat)
  case atStart => exact ⟨0, Nat.zero_le _, rfl, hr0, (Below.refl _ _).grown hgrow0 (Nat.le_refl _) (fun k h => by cases h)⟩
  case round =>
    obtain ⟨k, hk, rfl, hown, hb⟩ := hrel
    by_cases hlt : k < n
    · have hx := Option.some.inj (hL.at_ (by omega))
      subst hx
      have hc := hL.cell k hlt
      have hbl := World.block_lt_of_cell? w ⟨b, off + k, none⟩ hc
      have g1 : wr.cell? ⟨b, off + k, none⟩ = some (.int .u8 (l.getD k 0)) := (hb.cell (by exact hbl)).trans hc
      have g2 : wr.cell? ⟨w.heap.size, k, none⟩ = some (.int .u8 (if k < k then l.getD k 0 else 0)) := hown.cell k hlt
      rw [if_neg (Nat.lt_irrefl k)] at g2
      have g3 := hown.free k
      have so : Row (wr.setCell ⟨w.heap.size, k, none⟩ (.int .u8 (l.getD k 0))) w.heap.size 5 n (mixB l (k + 1)) := by
        have := hown.set k (.int .u8 (l.getD k 0)); rw [mixB_upd] at this; exact this
      have hb2 : Below w.heap.size w (wr.setCell ⟨w.heap.size, k, none⟩ (.int .u8 (l.getD k 0))) := hb.setCell (by exact Nat.le_refl _) _
      clear hown hc hbl
      generalize l.getD k 0 = z at *
      go_wp2
      go_roundw
      case rel => exact ⟨k + 1, by omega, by go_num, so, hb2⟩
      case measure => simp [intOf]; omega
    · obtain rfl : k = n := by omega
      go_wp2
      go_ret
      exact ⟨_, rfl, hown.buf hL.len (fun i hi => by simp [mixB, hi]) (by unfold maxLen; omega), (fun j h => by cases h; exact Nat.le_refl _), hb⟩

theorem clone_any (ad : Option Addr) (b off n c : Nat) (l : List Int) (w : World) (hn : n ≤ 1099511627776) (hL : Byts w ad b off n l) (hz : ad = none → n = 0 ∧ c = 0) :
    Calls Try.prog 8 #[.slice ad n c] w (Fresh l w) := by
  cases ad with
  | none =>
    obtain ⟨rfl, rfl⟩ := hz rfl
    obtain rfl : l = [] := List.eq_nil_of_length_eq_zero hL.len
    exact clone_nil w
  | some x => exact clone_some x b off n c l w hn hL

theorem clone_buf (v : Value) (l : List Int) (w : World) (hB : Buf w v l) (hn : l.length ≤ 1099511627776) : Calls Try.prog 8 #[v] w (Fresh l w) := by
  obtain ⟨ad, g, c, rfl, hb, hz, _, _⟩ := hB.byts
  exact clone_any ad g 0 _ c l w hn hb hz

set_option maxHeartbeats 1000000 in
theorem same_any (ad1 ad2 : Option Addr) (b1 o1 b2 o2 n c1 c2 : Nat) (l : List Int) (w : World) (hn : n ≤ 1099511627776) (h1 : Byts w ad1 b1 o1 n l) (h2 : Byts w ad2 b2 o2 n l) :
    Calls Try.prog 11 #[.slice ad1 n c1, .slice ad2 n c2] w fun e w' => e = .returned (.bool true) ∧ ∃ q, w' = w.drewN q := by
  have hN : Hid (n ≤ maxLen) := by show n ≤ maxLen; unfold maxLen; omega
  go_enter Try.func11, Try.ntmps11
  go_wp2
  go_loopw [5] (fun i wr => ∃ k q : Nat, k ≤ n ∧ i = .int .i64 k ∧ wr = w.drewN q) (fun i _ => n - (intOf i).toNat)
  case atStart => exact ⟨0, 0, Nat.zero_le _, rfl, rfl⟩
  case round =>
    obtain ⟨k, q, hk, rfl, rfl⟩ := hrel
    by_cases hlt : k < n
    · obtain rfl := h1.at_ (by omega)
      obtain rfl := h2.at_ (by omega)
      have g1 : w.cell? ⟨b1, o1 + k, none⟩ = some (.int .u8 (l.getD k 0)) := h1.cell k hlt
      have g2 : w.cell? ⟨b2, o2 + k, none⟩ = some (.int .u8 (l.getD k 0)) := h2.cell k hlt
      generalize l.getD k 0 = z at *
      have hne : (z != z) = false := by simp
      go_wp2_with fail
      go_quiet (fail)
      go_wp2
      go_roundw
      case rel => exact ⟨k + 1, q + nq, by omega, by go_num, by simp [World.drewN, Nat.add_assoc]⟩
      case measure => simp [intOf]; omega
    · obtain rfl : k = n := by omega
      go_wp2
      go_ret
      exact ⟨rfl, q, rfl⟩

theorem same_buf (v1 v2 : Value) (l : List Int) (w : World) (hn : l.length ≤ 1099511627776) (h1 : Buf w v1 l) (h2 : Buf w v2 l) :
    Calls Try.prog 11 #[v1, v2] w fun e w' => e = .returned (.bool true) ∧ ∃ q, w' = w.drewN q := by
  obtain ⟨ad, g, c, rfl, hb, _, _, _⟩ := h1.byts
  obtain ⟨ad2, g2, c2, rfl, hb2, _, _, _⟩ := h2.byts
  exact same_any ad ad2 g 0 g2 0 _ c c2 l w hn hb hb2

def SomeBool (e : Ending) : Prop := ∃ b : Bool, e = .returned (.bool b)
theorem SomeBool.of (b : Bool) : SomeBool (.returned (.bool b)) := ⟨b, rfl⟩

theorem zz7_any (ad : Option Addr) (n c : Nat) (key word : ByteArray) (w : World) (hn : n ≤ maxLen) (hk : key.size ≤ maxLen) (hw : word.size ≤ maxLen) :
    Calls Try.prog 7 #[.slice ad n c, .string key, .string word] w fun e w' => SomeBool e ∧ w = w' := by
  unfold maxLen at hn hk hw
  go_enter Try.func7, Try.ntmps7
  go_wp2
  all_goals
    go_ret
    exact ⟨SomeBool.of _, rfl⟩
