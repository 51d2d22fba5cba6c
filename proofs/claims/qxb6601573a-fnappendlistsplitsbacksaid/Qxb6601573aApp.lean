/-
  AppendKey (22), AppendWord (9), AppendList (10).
-/
import Derived.Test.Qxb6601573aBuf
namespace Go.Proofs.Qxb6601573a
open Go.RowKit
set_option linter.unusedSimpArgs false
set_option linter.unusedVariables false

/-- the call gave a buffer that holds l, grown from v0 -/
def Gives (v0 : Value) (l : List Int) (w : World) (e : Ending) (w' : World) : Prop := ∃ v', e = .returned v' ∧ Buf w' v' l ∧ Evo v0.ownBlock w w' v'

/-- a loop's rounds: the first k parts -/
def keyAt (l : List Int) (key : ByteArray) (k : Nat) : List Int := if k = 0 then l ++ [32] else l ++ [32] ++ bs key
def keyed (l : List Int) (key : ByteArray) : List Int := l ++ [32] ++ bs key ++ [61]

set_option maxHeartbeats 1000000 in
theorem key_any (v : Value) (l : List Int) (bk : Nat) (key : ByteArray) (w : World) (hB : Buf w v l) (hlen : l.length + key.size + 2 ≤ 1099511627776)
    (hk : w.cell? ⟨bk, 0, none⟩ = some (.string key)) (hne : some bk ≠ v.ownBlock) :
    Calls Try.prog 22 #[v, .slice (some ⟨bk, 0, none⟩) 1 1] w (Gives v (keyed l key) w) := by
  have HK : Hid (w.cell? ⟨bk, 0, none⟩ = some (.string key)) := hk
  have HN : Hid (some bk ≠ v.ownBlock) := hne
  clear hk hne
  go_enter Try.func22, Try.ntmps22
  go_wp2_with (at_builtin; refine app_byte rfl (.tmp 7) (.tmp 8) rfl v l v.ownBlock w w 32 rfl rfl hB (Evo.refl w v) ?c1 ?_)
  case c1 => omega
  intro v1 w1 hB1 hE1
  go_wp2_with fail
  go_loopw [0, 12] (fun b i wr => ∃ k : Nat, k ≤ 1 ∧ i = .int .i64 k ∧ Buf wr b (keyAt l key k) ∧ Evo v.ownBlock w wr b) (fun _ i _ => 1 - (intOf i).toNat)
  case atStart => exact ⟨0, by omega, rfl, hB1, hE1⟩
  case round =>
    obtain ⟨k, hk, rfl, hB2, hE2⟩ := hrel
    by_cases hlt : k = 0
    · subst hlt
      have g1 : wr.cell? ⟨bk, 0, none⟩ = some (.string key) := hE2.cell HK.out HN.out
      have hl2 : (keyAt l key 0).length + key.size ≤ 1099511627776 := by simp [keyAt]; omega
      rename_i b0
      go_wp2_with (at_builtin; refine app_text rfl (.tmp 16) (.tmp 17) rfl _ (keyAt l key 0) v.ownBlock w _ key rfl rfl hB2 hE2 hl2 ?_)
      intro v2 w2 hB3 hE3
      go_wp2_with fail
      go_roundw
      case rel => exact ⟨1, by omega, rfl, hB3, hE3⟩
      case measure => simp [intOf]
    · obtain rfl : k = 1 := by omega
      have hl2 : (keyAt l key 1).length + 1 ≤ 1099511627776 := by simp [keyAt, bs_length]; omega
      go_wp2_with (at_builtin; refine app_byte rfl (.tmp 20) (.tmp 21) rfl _ (keyAt l key 1) v.ownBlock w _ 61 rfl rfl hB2 hE2 hl2 ?_)
      intro v2 w2 hB3 hE3
      go_wp2_with fail
      go_ret
      exact ⟨v2, rfl, hB3, hE3⟩

theorem str_empty {s : ByteArray} (h : s.size = 0) : s.toList = [] := List.eq_nil_of_length_eq_zero (by rw [ByteArray.toList_eq]; exact h)
theorem str_full {s : ByteArray} (h : ¬ s.size = 0) : ¬ s.toList = [] := fun e => h (by rw [ByteArray.toList_eq] at e; have := congrArg List.length e; exact this)

set_option maxHeartbeats 1000000 in
theorem word_any (v : Value) (l : List Int) (key word : ByteArray) (w : World) (hB : Buf w v l) (hlen : l.length + key.size + 2 + word.size ≤ 1099511627776) (hw : ¬ word.size = 0) :
    Calls Try.prog 9 #[v, .string key, .string word] w (Gives v (keyed l key ++ bs word) w) := by
  have hE := str_full hw
  have hE2 : word.toList.isEmpty = false := by rw [List.isEmpty_eq_false_iff]; exact hE
  have hlt : ∀ k, v.ownBlock = some k → k < w.heap.size := fun k h => (World.ownsRow.lt hB k h).2
  have hne : some w.heap.size ≠ v.ownBlock := fun h => by have := hlt _ h.symm; omega
  have hB1 : Buf (w.alloc (.cells #[.string key] 9)) v l := World.ownsRow.alloc hB _
  have hk : (w.alloc (.cells #[.string key] 9)).cell? ⟨w.heap.size, 0, none⟩ = some (.string key) := by simp
  have hl2 : (keyed l key).length + word.size ≤ 1099511627776 := by simp [keyed, bs_length]; omega
  have HC : Hid (Calls Try.prog 22 #[v, .slice (some ⟨w.heap.size, 0, none⟩) 1 1] (w.alloc (.cells #[.string key] 9)) (Gives v (keyed l key) (w.alloc (.cells #[.string key] 9)))) :=
    key_any v l w.heap.size key _ hB1 (by omega) hk hne
  clear hB1 hk hne hlt
  go_enter Try.func9, Try.ntmps9
  go_wp2_with fail
  refine HC.out.mono ?_
  rintro e w1 ⟨v1, rfl, hB1, hE1⟩
  have hE0 : Evo v.ownBlock w w1 v1 := ⟨⟨hE1.grown.os, hE1.grown.tape, hE1.grown.output, by have := hE1.grown.size; simp at this; omega, fun k hk hne => (hE1.grown.block k (by simp; omega) hne).trans (heap_alloc_old _ _ hk)⟩, by
    rcases hE1.here with h | ⟨k, h, h2⟩
    · exact .inl h
    · exact .inr ⟨k, h, by simp at h2; omega⟩⟩
  go_wp2_with (at_builtin; refine app_text rfl (.tmp 13) (.tmp 14) rfl v1 (keyed l key) v.ownBlock w w1 word rfl rfl hB1 hE0 hl2 ?_)
  intro v2 w2 hB3 hE3
  go_wp2_with fail
  go_ret
  exact ⟨v2, rfl, hB3, hE3⟩

/-- the first k items, with a comma between them -/
def joined (A : Nat → ByteArray) : Nat → List Int
  | 0 => []
  | k + 1 => joined A k ++ (if k = 0 then [] else [44]) ++ bs (A k)
theorem joined_le (A : Nat → ByteArray) (k : Nat) : ∀ d, (joined A k).length ≤ (joined A (k + d)).length
  | 0 => Nat.le_refl _
  | d + 1 => by
    have := joined_le A k d
    rw [← Nat.add_assoc]
    simp only [joined, List.length_append]
    omega

/-- a slice of strings: where there is one, its address is known and its cells lie there, apart from the row o -/
structure Strs (w : World) (ad : Option Addr) (b off n : Nat) (A : Nat → ByteArray) : Prop where
  at_ : 0 < n → ad = some ⟨b, off, none⟩
  cell : ∀ i, i < n → w.cell? ⟨b, off + i, none⟩ = some (.string (A i))

set_option maxHeartbeats 1000000 in
theorem list_some (v : Value) (l : List Int) (key : ByteArray) (ad : Option Addr) (b off n c : Nat) (A : Nat → ByteArray) (w : World) (hB : Buf w v l) (hn : n ≤ 1048576)
    (hlen : l.length + key.size + 2 + (joined A n).length ≤ 1099511627776) (hS : Strs w ad b off n A) (hnb : some b ≠ v.ownBlock) (hpos : 0 < n) :
    Calls Try.prog 10 #[v, .string key, .slice ad n c] w (Gives v (keyed l key ++ joined A n) w) := by
  have hlt : ∀ k, v.ownBlock = some k → k < w.heap.size := fun k h => (World.ownsRow.lt hB k h).2
  have hne : some w.heap.size ≠ v.ownBlock := fun h => by have := hlt _ h.symm; omega
  have hB1 : Buf (w.alloc (.cells #[.string key] 9)) v l := World.ownsRow.alloc hB _
  have hk : (w.alloc (.cells #[.string key] 9)).cell? ⟨w.heap.size, 0, none⟩ = some (.string key) := by simp
  have HC : Hid (Calls Try.prog 22 #[v, .slice (some ⟨w.heap.size, 0, none⟩) 1 1] (w.alloc (.cells #[.string key] 9)) (Gives v (keyed l key) (w.alloc (.cells #[.string key] 9)))) :=
    key_any v l w.heap.size key _ hB1 (by omega) hk hne
  have hkl : (keyed l key).length = l.length + key.size + 2 := by simp [keyed, bs_length]; omega
  have HNB : Hid (some b ≠ v.ownBlock) := hnb
  clear hB1 hk hne hlt hnb
  obtain rfl := hS.at_ hpos
  have hz : ((n : Int) == 0) = false := beq_eq_false_iff_ne.2 (by omega)
  go_enter Try.func10, Try.ntmps10
  go_wp2_with fail
  refine HC.out.mono ?_
  rintro e w1 ⟨v1, rfl, hB1, hE1⟩
  have hE0 : Evo v.ownBlock w w1 v1 := ⟨⟨hE1.grown.os, hE1.grown.tape, hE1.grown.output, by have := hE1.grown.size; simp at this; omega, fun k hk hne => (hE1.grown.block k (by simp; omega) hne).trans (heap_alloc_old _ _ hk)⟩, by
    rcases hE1.here with h | ⟨k, h, h2⟩
    · exact .inl h
    · exact .inr ⟨k, h, by simp at h2; omega⟩⟩
  clear hE1
  go_wp2_with fail
  go_loopw [0, 19] (fun b i wr => ∃ k : Nat, k ≤ n ∧ i = .int .i64 k ∧ Buf wr b (keyed l key ++ joined A k) ∧ Evo v.ownBlock w wr b) (fun _ i _ => n - (intOf i).toNat)
  case atStart => exact ⟨0, by omega, rfl, by simpa [joined] using hB1, hE0⟩
  case round =>
    obtain ⟨k, hk, rfl, hB2, hE2⟩ := hrel
    by_cases hlt : k < n
    · have g1 : wr.cell? ⟨b, off + k, none⟩ = some (.string (A k)) := hE2.cell (hS.cell k hlt) HNB.out
      have hj := joined_le A (k + 1) (n - (k + 1))
      rw [show k + 1 + (n - (k + 1)) = n by omega] at hj
      simp only [joined, List.length_append, bs_length] at hj
      by_cases h0 : k = 0
      · subst h0
        rw [Nat.add_zero] at g1
        have hl2 : (keyed l key ++ joined A 0).length + (A 0).size ≤ 1099511627776 := by
          simp only [List.length_append, hkl, joined, List.length_nil] at hj ⊢
          omega
        clear hj
        go_wp2_with (at_builtin; refine app_text rfl (.tmp 29) (.tmp 30) rfl _ (keyed l key ++ joined A 0) v.ownBlock w _ (A 0) rfl rfl hB2 hE2 hl2 ?_)
        intro v2 w2 hB3 hE3
        go_wp2_with fail
        go_roundw
        case rel => exact ⟨1, by omega, rfl, by simpa [joined] using hB3, hE3⟩
        case measure => simp [intOf]; omega
      · have hl1 : (keyed l key ++ joined A k).length + 1 ≤ 1099511627776 := by
          rw [if_neg h0] at hj
          simp only [List.length_append, hkl, List.length_cons, List.length_nil] at hj ⊢
          omega
        have hl2 : (keyed l key ++ joined A k ++ [44]).length + (A k).size ≤ 1099511627776 := by
          rw [if_neg h0] at hj
          simp only [List.length_append, hkl, List.length_cons, List.length_nil] at hj ⊢
          omega
        have hkp : 0 < k := by omega
        clear hj h0
        go_wp2_with (at_builtin; refine app_byte rfl (.tmp 26) (.tmp 27) rfl _ (keyed l key ++ joined A k) v.ownBlock w _ 44 rfl rfl hB2 hE2 hl1 ?_)
        intro v2 w2 hB3 hE3
        have HB3 : Hid (Buf w2 v2 (keyed l key ++ joined A k ++ [44])) := by show Buf _ _ _; rw [List.append_assoc]; exact hB3
        have HL2 : Hid ((keyed l key ++ joined A k ++ [44]).length + (A k).size ≤ 1099511627776) := hl2
        clear hB3 hl2
        go_wp2_with (at_builtin; refine app_text rfl (.tmp 29) (.tmp 30) rfl v2 (keyed l key ++ joined A k ++ [44]) v.ownBlock w w2 (A k) rfl rfl HB3.out hE3 HL2.out ?_)
        intro v3 w3 hB4 hE4
        have hB5 : Buf w3 v3 (keyed l key ++ joined A (k + 1)) := by
          have e : keyed l key ++ joined A (k + 1) = keyed l key ++ joined A k ++ [44] ++ bs (A k) := by simp [joined, show ¬ k = 0 by omega]
          rw [e]
          simpa using hB4
        clear hB4
        go_wp2_with fail
        go_roundw
        case rel => exact ⟨k + 1, by omega, by go_num, hB5, hE4⟩
        case measure => simp [intOf]; omega
    · obtain rfl : k = n := by omega
      go_wp2_with fail
      go_ret
      exact ⟨_, rfl, hB2, hE2⟩

theorem list_none (v : Value) (l : List Int) (key : ByteArray) (ad : Option Addr) (c : Nat) (w : World) (hB : Buf w v l) :
    Calls Try.prog 10 #[v, .string key, .slice ad 0 c] w (Gives v l w) := by
  go_enter Try.func10, Try.ntmps10
  go_wp2_with fail
  go_ret
  exact ⟨v, rfl, hB, Evo.refl w v⟩
