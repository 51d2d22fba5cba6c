/-
  zzBytes (12, 17, 19), listBytes (13), cloneStrings (14), sameBytesStr (18), hasByte (20), listHasByte (21).
-/
import Derived.Test.Qxb6601573aSmall
namespace Go.Proofs.Qxb6601573a
open Go.RowKit
set_option linter.unusedSimpArgs false
set_option linter.unusedVariables false

set_option maxHeartbeats 1000000 in
theorem zz12_any (al ad : Option Addr) (n c b off m d : Nat) (key : ByteArray) (A : Nat → ByteArray) (w : World) (hn : n ≤ maxLen) (hk : key.size ≤ maxLen) (hm : m ≤ maxLen) (hS : Strs w ad b off m A) (hA : ∀ i, i < m → (A i).size ≤ maxLen) :
    Calls Try.prog 12 #[.slice al n c, .string key, .slice ad m d] w fun e w' => SomeBool e ∧ w = w' := by
  unfold maxLen at hn hk hm hA
  have hcase : 1048576 < n ∨ (n ≤ 1048576 ∧ 1048576 < key.size) ∨ (n ≤ 1048576 ∧ key.size ≤ 1048576 ∧ 1048576 < n + key.size) ∨ (n ≤ 1048576 ∧ key.size ≤ 1048576 ∧ n + key.size ≤ 1048576 ∧ 1048576 < m) ∨
      (n ≤ 1048576 ∧ key.size ≤ 1048576 ∧ n + key.size ≤ 1048576 ∧ m ≤ 1048576 ∧ 1048576 < n + key.size + m) ∨ (n ≤ 1048576 ∧ key.size ≤ 1048576 ∧ n + key.size ≤ 1048576 ∧ m ≤ 1048576 ∧ n + key.size + m ≤ 1048576) := by omega
  rcases hcase with h1 | ⟨h1, h2⟩ | ⟨h1, h2, h3⟩ | ⟨h1, h2, h3, h4⟩ | ⟨h1, h2, h3, h4, h5⟩ | ⟨h1, h2, h3, h4, h5⟩
  · go_enter Try.func12, Try.ntmps12
    go_wp2_with fail
    go_ret
    exact ⟨SomeBool.of _, rfl⟩
  · go_enter Try.func12, Try.ntmps12
    go_wp2_with fail
    go_ret
    exact ⟨SomeBool.of _, rfl⟩
  · go_enter Try.func12, Try.ntmps12
    go_wp2_with fail
    go_ret
    exact ⟨SomeBool.of _, rfl⟩
  · go_enter Try.func12, Try.ntmps12
    go_wp2_with fail
    go_ret
    exact ⟨SomeBool.of _, rfl⟩
  · go_enter Try.func12, Try.ntmps12
    go_wp2_with fail
    go_ret
    exact ⟨SomeBool.of _, rfl⟩
  · go_enter Try.func12, Try.ntmps12
    go_wp2_with fail
    go_loop [7, 8] (fun s i => ∃ k t : Nat, k ≤ m ∧ t ≤ 1048576 ∧ s = .int .i64 t ∧ i = .int .i64 k) (fun _ i => m - (intOf i).toNat)
    case atStart => exact ⟨0, n + key.size + m, Nat.zero_le _, h5, by go_num, rfl⟩
    case round =>
      obtain ⟨k, t, hk, ht, rfl, rfl⟩ := hrel
      by_cases hlt : k < m
      · obtain rfl := hS.at_ (by omega)
        have g1 := hS.cell k hlt
        have g2 := hA k hlt
        generalize A k = s at *
        by_cases h6 : 1048576 < s.size
        · go_wp2_with fail
          go_ret
          exact ⟨SomeBool.of _, rfl⟩
        · by_cases h7 : 1048576 < t + s.size
          · go_wp2_with fail
            go_ret
            exact ⟨SomeBool.of _, rfl⟩
          · go_wp2_with fail
            go_round
            case rel => exact ⟨k + 1, t + s.size, by omega, by omega, by go_num, by go_num⟩
            case measure => simp [intOf]; omega
      · obtain rfl : k = m := by omega
        go_wp2_with fail
        go_ret
        exact ⟨SomeBool.of _, rfl⟩

set_option maxHeartbeats 1000000 in
theorem zz17_any (al ad : Option Addr) (n c b off m d : Nat) (key : ByteArray) (A : Nat → ByteArray) (w : World) (hn : n ≤ maxLen) (hk : key.size ≤ maxLen) (hm : m ≤ maxLen) (hS : Strs w ad b off m A) (hA : ∀ i, i < m → (A i).size ≤ maxLen) :
    Calls Try.prog 17 #[.slice al n c, .string key, .slice ad m d] w fun e w' => SomeBool e ∧ w = w' := by
  unfold maxLen at hn hk hm hA
  have hcase : 1048576 < n ∨ (n ≤ 1048576 ∧ 1048576 < key.size) ∨ (n ≤ 1048576 ∧ key.size ≤ 1048576 ∧ 1048576 < n + key.size) ∨ (n ≤ 1048576 ∧ key.size ≤ 1048576 ∧ n + key.size ≤ 1048576 ∧ 1048576 < m) ∨
      (n ≤ 1048576 ∧ key.size ≤ 1048576 ∧ n + key.size ≤ 1048576 ∧ m ≤ 1048576 ∧ 1048576 < n + key.size + m) ∨ (n ≤ 1048576 ∧ key.size ≤ 1048576 ∧ n + key.size ≤ 1048576 ∧ m ≤ 1048576 ∧ n + key.size + m ≤ 1048576) := by omega
  rcases hcase with h1 | ⟨h1, h2⟩ | ⟨h1, h2, h3⟩ | ⟨h1, h2, h3, h4⟩ | ⟨h1, h2, h3, h4, h5⟩ | ⟨h1, h2, h3, h4, h5⟩
  · go_enter Try.func17, Try.ntmps17
    go_wp2_with fail
    go_ret
    exact ⟨SomeBool.of _, rfl⟩
  · go_enter Try.func17, Try.ntmps17
    go_wp2_with fail
    go_ret
    exact ⟨SomeBool.of _, rfl⟩
  · go_enter Try.func17, Try.ntmps17
    go_wp2_with fail
    go_ret
    exact ⟨SomeBool.of _, rfl⟩
  · go_enter Try.func17, Try.ntmps17
    go_wp2_with fail
    go_ret
    exact ⟨SomeBool.of _, rfl⟩
  · go_enter Try.func17, Try.ntmps17
    go_wp2_with fail
    go_ret
    exact ⟨SomeBool.of _, rfl⟩
  · go_enter Try.func17, Try.ntmps17
    go_wp2_with fail
    go_loop [7, 8] (fun s i => ∃ k t : Nat, k ≤ m ∧ t ≤ 1048576 ∧ s = .int .i64 t ∧ i = .int .i64 k) (fun _ i => m - (intOf i).toNat)
    case atStart => exact ⟨0, n + key.size + m, Nat.zero_le _, h5, by go_num, rfl⟩
    case round =>
      obtain ⟨k, t, hk, ht, rfl, rfl⟩ := hrel
      by_cases hlt : k < m
      · obtain rfl := hS.at_ (by omega)
        have g1 := hS.cell k hlt
        have g2 := hA k hlt
        generalize A k = s at *
        by_cases h6 : 1048576 < s.size
        · go_wp2_with fail
          go_ret
          exact ⟨SomeBool.of _, rfl⟩
        · by_cases h7 : 1048576 < t + s.size
          · go_wp2_with fail
            go_ret
            exact ⟨SomeBool.of _, rfl⟩
          · go_wp2_with fail
            go_round
            case rel => exact ⟨k + 1, t + s.size, by omega, by omega, by go_num, by go_num⟩
            case measure => simp [intOf]; omega
      · obtain rfl : k = m := by omega
        go_wp2_with fail
        go_ret
        exact ⟨SomeBool.of _, rfl⟩

set_option maxHeartbeats 1000000 in
theorem zz19_any (al ad : Option Addr) (n c b off m d : Nat) (key : ByteArray) (A : Nat → ByteArray) (w : World) (hn : n ≤ maxLen) (hk : key.size ≤ maxLen) (hm : m ≤ maxLen) (hS : Strs w ad b off m A) (hA : ∀ i, i < m → (A i).size ≤ maxLen) :
    Calls Try.prog 19 #[.slice al n c, .string key, .slice ad m d] w fun e w' => SomeBool e ∧ w = w' := by
  unfold maxLen at hn hk hm hA
  have hcase : 1048576 < n ∨ (n ≤ 1048576 ∧ 1048576 < key.size) ∨ (n ≤ 1048576 ∧ key.size ≤ 1048576 ∧ 1048576 < n + key.size) ∨ (n ≤ 1048576 ∧ key.size ≤ 1048576 ∧ n + key.size ≤ 1048576 ∧ 1048576 < m) ∨
      (n ≤ 1048576 ∧ key.size ≤ 1048576 ∧ n + key.size ≤ 1048576 ∧ m ≤ 1048576 ∧ 1048576 < n + key.size + m) ∨ (n ≤ 1048576 ∧ key.size ≤ 1048576 ∧ n + key.size ≤ 1048576 ∧ m ≤ 1048576 ∧ n + key.size + m ≤ 1048576) := by omega
  rcases hcase with h1 | ⟨h1, h2⟩ | ⟨h1, h2, h3⟩ | ⟨h1, h2, h3, h4⟩ | ⟨h1, h2, h3, h4, h5⟩ | ⟨h1, h2, h3, h4, h5⟩
  · go_enter Try.func19, Try.ntmps19
    go_wp2_with fail
    go_ret
    exact ⟨SomeBool.of _, rfl⟩
  · go_enter Try.func19, Try.ntmps19
    go_wp2_with fail
    go_ret
    exact ⟨SomeBool.of _, rfl⟩
  · go_enter Try.func19, Try.ntmps19
    go_wp2_with fail
    go_ret
    exact ⟨SomeBool.of _, rfl⟩
  · go_enter Try.func19, Try.ntmps19
    go_wp2_with fail
    go_ret
    exact ⟨SomeBool.of _, rfl⟩
  · go_enter Try.func19, Try.ntmps19
    go_wp2_with fail
    go_ret
    exact ⟨SomeBool.of _, rfl⟩
  · go_enter Try.func19, Try.ntmps19
    go_wp2_with fail
    go_loop [7, 8] (fun s i => ∃ k t : Nat, k ≤ m ∧ t ≤ 1048576 ∧ s = .int .i64 t ∧ i = .int .i64 k) (fun _ i => m - (intOf i).toNat)
    case atStart => exact ⟨0, n + key.size + m, Nat.zero_le _, h5, by go_num, rfl⟩
    case round =>
      obtain ⟨k, t, hk, ht, rfl, rfl⟩ := hrel
      by_cases hlt : k < m
      · obtain rfl := hS.at_ (by omega)
        have g1 := hS.cell k hlt
        have g2 := hA k hlt
        generalize A k = s at *
        by_cases h6 : 1048576 < s.size
        · go_wp2_with fail
          go_ret
          exact ⟨SomeBool.of _, rfl⟩
        · by_cases h7 : 1048576 < t + s.size
          · go_wp2_with fail
            go_ret
            exact ⟨SomeBool.of _, rfl⟩
          · go_wp2_with fail
            go_round
            case rel => exact ⟨k + 1, t + s.size, by omega, by omega, by go_num, by go_num⟩
            case measure => simp [intOf]; omega
      · obtain rfl : k = m := by omega
        go_wp2_with fail
        go_ret
        exact ⟨SomeBool.of _, rfl⟩

def tot (A : Nat → ByteArray) : Nat → Nat
  | 0 => 0
  | k + 1 => tot A k + (A k).size
theorem tot_le (A : Nat → ByteArray) (k : Nat) : ∀ d, tot A k ≤ tot A (k + d)
  | 0 => Nat.le_refl _
  | d + 1 => by have := tot_le A k d; rw [← Nat.add_assoc]; simp only [tot]; omega
theorem tot_at {A : Nat → ByteArray} {i m : Nat} (h : i < m) : (A i).size ≤ tot A m := by
  have := tot_le A (i + 1) (m - (i + 1))
  rw [show i + 1 + (m - (i + 1)) = m by omega] at this
  simp only [tot] at this
  omega
theorem joined_tot (A : Nat → ByteArray) : ∀ k, (joined A k).length ≤ tot A k + k
  | 0 => Nat.le_refl _
  | k + 1 => by
    have := joined_tot A k
    simp only [joined, tot, List.length_append, bs_length]
    split <;> simp <;> omega

/-- a number was returned; where it is at most 2^20 it bounds x -/
def Counts (x : Nat) (e : Ending) : Prop := ∃ t : Nat, e = .returned (.int .i64 t) ∧ (t ≤ 1048576 → x ≤ 1048576) ∧ t ≤ 1048577
theorem Counts.of {x : Nat} {z : Int} (t : Nat) (hz : z = t) (h : t ≤ 1048576 → x ≤ 1048576) (h2 : t ≤ 1048577) : Counts x (.returned (.int .i64 z)) := ⟨t, by rw [hz], h, h2⟩

set_option maxHeartbeats 1000000 in
theorem listBytes_any (al ad : Option Addr) (n c b off m d : Nat) (key : ByteArray) (A : Nat → ByteArray) (w : World) (hn : n ≤ 1048576) (hk : key.size ≤ 1048576) (hm : m ≤ 65536) (hS : Strs w ad b off m A) (hA : ∀ i, i < m → (A i).size ≤ maxLen) :
    Calls Try.prog 13 #[.slice al n c, .string key, .slice ad m d] w fun e w' => Counts (n + key.size + 16 * m + tot A m) e ∧ w = w' := by
  unfold maxLen at hA
  by_cases h1 : n + key.size + 16 * m ≤ 1048576
  · go_enter Try.func13, Try.ntmps13
    go_wp2_with fail
    go_loop [7, 8] (fun s i => ∃ k t : Nat, k ≤ m ∧ t ≤ 1048576 ∧ s = .int .i64 t ∧ i = .int .i64 k ∧ Hid (t = n + key.size + 16 * m + tot A k)) (fun _ i => m - (intOf i).toNat)
    case atStart => exact ⟨0, n + key.size + 16 * m, Nat.zero_le _, h1, by go_num, rfl, rfl⟩
    case round =>
      obtain ⟨k, t, hk, ht, rfl, rfl, hT⟩ := hrel
      by_cases hlt : k < m
      · obtain rfl := hS.at_ (by omega)
        have g1 := hS.cell k hlt
        have g2 := hA k hlt
        have hT2 : Hid (n + key.size + 16 * m + tot A (k + 1) = t + (A k).size) := by show _ = _; simp only [tot]; have := hT.out; omega
        generalize A k = s at *
        by_cases h6 : 1048576 < s.size
        · go_wp2_with fail
          go_ret
          exact ⟨Counts.of 1048577 rfl (fun h => by omega) (by omega), rfl⟩
        · by_cases h7 : 1048576 < t + s.size
          · go_wp2_with fail
            go_ret
            exact ⟨Counts.of 1048577 rfl (fun h => by omega) (by omega), rfl⟩
          · go_wp2_with fail
            go_round
            case rel => exact ⟨k + 1, t + s.size, by omega, by omega, by go_num, by go_num, hT2.out.symm⟩
            case measure => simp [intOf]; omega
      · obtain rfl : k = m := by omega
        go_wp2_with fail
        go_ret
        exact ⟨Counts.of t rfl (fun h => by have := hT.out; omega) (by omega), rfl⟩
  · go_enter Try.func13, Try.ntmps13
    go_wp2_with fail
    go_ret
    exact ⟨Counts.of 1048577 rfl (fun h => by omega) (by omega), rfl⟩

def strV (A : Nat → ByteArray) : Nat → Value := fun i => .string (A i)
def mixS (A : Nat → ByteArray) (k : Nat) : Nat → Value := fun i => if i < k then .string (A i) else .string ByteArray.empty
theorem mixS_upd (A : Nat → ByteArray) (k : Nat) : upd (mixS A k) k (.string (A k)) = mixS A (k + 1) := by
  funext j
  simp only [upd, mixS]
  by_cases h : j = k
  · subst h; simp
  · by_cases h2 : j < k
    · rw [if_neg h, if_pos h2, if_pos (by omega)]
    · rw [if_neg h, if_neg h2, if_neg (by omega)]

/-- a copy of the list, in a new block; all that was there stands -/
def FreshS (A : Nat → ByteArray) (m : Nat) (w : World) (e : Ending) (w' : World) : Prop :=
  ∃ ad, e = .returned (.slice ad m m) ∧ Strs w' ad w.heap.size 0 m A ∧ Below w.heap.size w w'

theorem cloneS_nil (A : Nat → ByteArray) (w : World) : Calls Try.prog 14 #[.slice none 0 0] w (FreshS A 0 w) := by
  have q27 : ∀ (w : World) (a : Option Addr) (n c n' c' : Nat), _ := fun w a n c n' c' => Lib.run_eql_slice_nil (P := Try.prog) w 27 9 a n c n' c' Try.underlying27
  go_enter Try.func14, Try.ntmps14
  go_wp2
  go_ret
  exact ⟨_, rfl, ⟨fun h => by omega, fun i hi => by omega⟩, Below.refl _ _⟩

set_option maxHeartbeats 1000000 in
theorem cloneS_some (x : Addr) (b off n c : Nat) (A : Nat → ByteArray) (w : World) (hn : n ≤ 65536) (hL : Strs w (some x) b off n A) :
    Calls Try.prog 14 #[.slice (some x) n c] w (FreshS A n w) := by
  have q27 : ∀ (w : World) (a : Option Addr) (n c n' c' : Nat), _ := fun w a n c n' c' => Lib.run_eql_slice_nil (P := Try.prog) w 27 9 a n c n' c' Try.underlying27
  obtain ⟨i0, hi, hz0, hz1, hz2⟩ := info_parts info9
  go_enter Try.func14, Try.ntmps14
  go_wp2_with (at_make; refine wpList_make_full _ rfl _ _ 27 rfl w.heap.size 9 i0 (.string ByteArray.empty) 1 Try.underlying27 hi hz0 hz1 _ _ _ _ n rfl rfl rfl rfl ?b2 ?b3 (Nat.le_refl _) ?_)
  case b2 => rw [hz2]; omega
  case b3 => unfold maxLen; omega
  intro w0 hown0 hgrow0
  rw [toList_madeCells_one] at hown0
  have hr0 : Row w0 w.heap.size 9 n (mixS A 0) := Row.of_owns hown0 (fun i hi => by simp [hi, mixS])
  clear hown0 hi hz0 hz1 hz2
  go_wp2
  go_loopw [4] (fun i wr => ∃ k : Nat, k ≤ n ∧ i = .int .i64 k ∧ Row wr w.heap.size 9 n (mixS A k) ∧ Below w.heap.size w wr)
    (fun i _ => n - (intOf i).toNat)
  case atStart => exact ⟨0, Nat.zero_le _, rfl, hr0, (Below.refl _ _).grown hgrow0 (Nat.le_refl _) (fun k h => by cases h)⟩
  case round =>
    obtain ⟨k, hk, rfl, hown, hb⟩ := hrel
    by_cases hlt : k < n
    · have hx := Option.some.inj (hL.at_ (by omega))
      subst hx
      have hc := hL.cell k hlt
      have hbl := World.block_lt_of_cell? w ⟨b, off + k, none⟩ hc
      have g1 : wr.cell? ⟨b, off + k, none⟩ = some (.string (A k)) := (hb.cell (by exact hbl)).trans hc
      have g2 : wr.cell? ⟨w.heap.size, k, none⟩ = some (mixS A k k) := hown.cell k hlt
      have g3 := hown.free k
      have g4 : mixS A k k = .string ByteArray.empty := by simp [mixS]
      rw [g4] at g2
      have so : Row (wr.setCell ⟨w.heap.size, k, none⟩ (.string (A k))) w.heap.size 9 n (mixS A (k + 1)) := by
        have := hown.set k (.string (A k)); rw [mixS_upd] at this; exact this
      have hb2 : Below w.heap.size w (wr.setCell ⟨w.heap.size, k, none⟩ (.string (A k))) := hb.setCell (by exact Nat.le_refl _) _
      clear hown g4 hc hbl
      go_wp2
      go_roundw
      case rel => exact ⟨k + 1, by omega, by go_num, so, hb2⟩
      case measure => simp [intOf]; omega
    · obtain rfl : k = n := by omega
      go_wp2
      go_ret
      exact ⟨_, rfl, ⟨fun _ => rfl, fun i hi => by rw [Nat.zero_add, hown.cell i hi]; simp [mixS, hi]⟩, hb⟩

theorem cloneS_any (ad : Option Addr) (b off n c : Nat) (A : Nat → ByteArray) (w : World) (hn : n ≤ 65536) (hL : Strs w ad b off n A) (hz : ad = none → n = 0 ∧ c = 0) :
    Calls Try.prog 14 #[.slice ad n c] w (FreshS A n w) := by
  cases ad with
  | none =>
    obtain ⟨rfl, rfl⟩ := hz rfl
    exact cloneS_nil A w
  | some x => exact cloneS_some x b off n c A w hn hL

theorem bs_getD {s : ByteArray} {k : Nat} (h : k < s.size) : (bs s).getD k 0 = (s[k].toNat : Int) := by
  have h2 : k < s.data.toList.length := by rw [Array.length_toList]; exact h
  simp only [bs, List.getD_eq_getElem?_getD, List.getElem?_map, List.getElem?_eq_getElem h2]
  rfl

set_option maxHeartbeats 1000000 in
theorem sameStr_any (ad : Option Addr) (b off c : Nat) (s : ByteArray) (w : World) (hn : s.size ≤ 1099511627776) (h1 : Byts w ad b off s.size (bs s)) :
    Calls Try.prog 18 #[.slice ad s.size c, .string s] w fun e w' => e = .returned (.bool true) ∧ ∃ q, w' = w.drewN q := by
  go_enter Try.func18, Try.ntmps18
  go_wp2
  go_loopw [5] (fun i wr => ∃ k q : Nat, k ≤ s.size ∧ i = .int .i64 k ∧ wr = w.drewN q) (fun i _ => s.size - (intOf i).toNat)
  case atStart => exact ⟨0, 0, Nat.zero_le _, rfl, rfl⟩
  case round =>
    obtain ⟨k, q, hk, rfl, rfl⟩ := hrel
    by_cases hlt : k < s.size
    · obtain rfl := h1.at_ (by omega)
      have g1 : w.cell? ⟨b, off + k, none⟩ = some (.int .u8 ((bs s).getD k 0)) := h1.cell k hlt
      rw [bs_getD hlt] at g1
      have hne : ((s[k].toNat : Int) != (s[k].toNat : Int)) = false := by simp
      go_wp2_with fail
      go_quiet (fail)
      go_wp2
      go_roundw
      case rel => exact ⟨k + 1, q + nq, by omega, by go_num, by simp [World.drewN, Nat.add_assoc]⟩
      case measure => simp [intOf]; omega
    · obtain rfl : k = s.size := by omega
      go_wp2
      go_ret
      exact ⟨rfl, q, rfl⟩

/-- a bool: whether p -/
def Says (p : Prop) (e : Ending) : Prop := ∃ b : Bool, e = .returned (.bool b) ∧ (b = true ↔ p)
theorem Says.yes {p : Prop} (h : p) : Says p (.returned (.bool true)) := ⟨true, rfl, ⟨fun _ => h, fun _ => rfl⟩⟩
theorem Says.no {p : Prop} (h : ¬ p) : Says p (.returned (.bool false)) := ⟨false, rfl, ⟨(fun e => by cases e), fun g => absurd g h⟩⟩

def has (s : ByteArray) (z : Int) : Prop := z ∈ bs s
theorem has_iff (s : ByteArray) (z : Int) : has s z ↔ ∃ j, j < s.size ∧ (bs s).getD j 0 = z := by
  unfold has
  rw [List.mem_iff_getElem?]
  constructor
  · rintro ⟨i, hi⟩
    have hl : i < (bs s).length := (List.getElem?_eq_some_iff.1 hi).1
    rw [bs_length] at hl
    exact ⟨i, hl, by rw [List.getD_eq_getElem?_getD, hi]; rfl⟩
  · rintro ⟨i, h1, h2⟩
    have hl : i < (bs s).length := by rw [bs_length]; exact h1
    refine ⟨i, ?_⟩
    rw [List.getD_eq_getElem?_getD, List.getElem?_eq_getElem hl] at h2
    rw [List.getElem?_eq_getElem hl]
    exact congrArg some h2

set_option maxHeartbeats 1000000 in
theorem has_any (s : ByteArray) (z : Int) (w : World) (hs : s.size ≤ maxLen) : Calls Try.prog 20 #[.string s, .int .u8 z] w fun e w' => Says (has s z) e ∧ w = w' := by
  unfold maxLen at hs
  go_enter Try.func20, Try.ntmps20
  go_wp2
  go_loop [5] (fun i => ∃ k : Nat, k ≤ s.size ∧ i = .int .i64 k ∧ Hid (∀ j, j < k → (bs s).getD j 0 ≠ z)) (fun i => s.size - (intOf i).toNat)
  case atStart => exact ⟨0, Nat.zero_le _, rfl, fun j h => by omega⟩
  case round =>
    obtain ⟨k, hk, rfl, hne⟩ := hrel
    by_cases hlt : k < s.size
    · have hb : Hid ((bs s).getD k 0 = (s[k].toNat : Int)) := bs_getD hlt
      by_cases he : (s[k].toNat : Int) = z
      · have HH : Hid (has s z) := (has_iff s z).2 ⟨k, hlt, hb.out.trans he⟩
        have hq : ((s[k].toNat : Int) == z) = true := by rw [he]; simp
        clear he
        go_wp2
        go_ret
        exact ⟨Says.yes HH.out, rfl⟩
      · have HE : Hid (¬ (s[k].toNat : Int) = z) := he
        have hq : ((s[k].toNat : Int) == z) = false := beq_eq_false_iff_ne.2 he
        clear he
        go_wp2
        go_round
        case rel =>
          refine ⟨k + 1, by omega, by go_num, fun j hj => ?_⟩
          by_cases e : j = k
          · subst e; rw [hb.out]; exact HE.out
          · exact hne.out j (by omega)
        case measure => simp [intOf]; omega
    · obtain rfl : k = s.size := by omega
      go_wp2
      go_ret
      exact ⟨Says.no (fun h => by obtain ⟨j, h1, h2⟩ := (has_iff s z).1 h; exact hne.out j h1 h2), rfl⟩

set_option maxHeartbeats 1000000 in
theorem listHas_any (ad : Option Addr) (b off m d : Nat) (A : Nat → ByteArray) (z : Int) (w : World) (hm : m ≤ 65536) (hS : Strs w ad b off m A) (hA : ∀ i, i < m → (A i).size ≤ maxLen) :
    Calls Try.prog 21 #[.slice ad m d, .int .u8 z] w fun e w' => Says (∃ i, i < m ∧ has (A i) z) e ∧ w = w' := by
  go_enter Try.func21, Try.ntmps21
  go_wp2
  go_loop [5] (fun i => ∃ k : Nat, k ≤ m ∧ i = .int .i64 k ∧ Hid (∀ j, j < k → ¬ has (A j) z)) (fun i => m - (intOf i).toNat)
  case atStart => exact ⟨0, Nat.zero_le _, rfl, fun j h => by omega⟩
  case round =>
    obtain ⟨k, hk, rfl, hne⟩ := hrel
    by_cases hlt : k < m
    · obtain rfl := hS.at_ (by omega)
      have g1 := hS.cell k hlt
      have HK : Hid (k < m) := hlt
      go_wp2_with fail
      refine (has_any (A k) z w (hA k hlt)).mono ?_
      rintro e w' ⟨⟨bb, rfl, hbb⟩, rfl⟩
      have HB : Hid (bb = true ↔ has (A k) z) := hbb
      clear hbb
      cases bb with
      | true =>
        go_wp2_with fail
        go_ret
        exact ⟨Says.yes ⟨k, HK.out, HB.out.1 (by trivial)⟩, rfl⟩
      | false =>
        go_wp2_with fail
        go_round
        case rel =>
          refine ⟨k + 1, by omega, by go_num, fun j hj => ?_⟩
          by_cases e : j = k
          · subst e; exact fun h => absurd (HB.out.2 h) (by decide)
          · exact hne.out j (by omega)
        case measure => simp [intOf]; omega
    · obtain rfl : k = m := by omega
      go_wp2_with fail
      go_ret
      exact ⟨Says.no (fun ⟨i, h1, h2⟩ => hne.out i h1 h2), rfl⟩
