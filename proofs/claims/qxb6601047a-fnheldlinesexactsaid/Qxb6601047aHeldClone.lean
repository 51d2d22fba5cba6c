/-
  The small functions on the road of FnHeldLinesExact: zzBytes (17), linesFit (18), cloneLines (19), indexIn (33), sameInts (22).
-/
import Derived.Test.Qxb6601047aRows
import Derived.Test.Qxb6601047aRowLib
import Derived.Test.Qxb6601047aHeldPlain
import Derived.Deep.QuietTactic
import Derived.BigQuiet
namespace Go.Proofs.Qxb6601047a
open Go.RowKit
set_option linter.unusedSimpArgs false
set_option linter.unusedVariables false

def strV (A : Nat → ByteArray) : Nat → Value := fun i => .string (A i)

theorem Try.info9 : (Try.prog.info? 9).map (fun i => (i.zero, i.size, i.bytes)) = some (some (.string ByteArray.empty), 1, 16) := by kernel_rfl

/-- A slice of n lines: where there is one, its address is known and its cells lie there. -/
structure Lines (w : World) (ad : Option Addr) (b off n : Nat) (A : Nat → ByteArray) : Prop where
  at_ : 0 < n → ad = some ⟨b, off, none⟩ ∧ b < w.heap.size
  reads : Reads w b off n (strV A)

theorem Lines.below {w w' : World} {ad : Option Addr} {b off n B : Nat} {A : Nat → ByteArray} (h : Lines w ad b off n A) (hb : Below B w w') (hB : w.heap.size ≤ B) : Lines w' ad b off n A :=
  ⟨fun hn => ⟨(h.at_ hn).1, by have := (h.at_ hn).2; have := hb.size; omega⟩, fun i hi => (hb.cell (by have := (h.at_ (by omega)).2; exact Nat.lt_of_lt_of_le this hB)).trans (h.reads i hi)⟩

theorem Lines.cell {w : World} {ad : Option Addr} {b off n : Nat} {A : Nat → ByteArray} (h : Lines w ad b off n A) (i : Nat) (hi : i < n) : w.cell? ⟨b, off + i, none⟩ = some (.string (A i)) := h.reads i hi

def mixS (A : Nat → ByteArray) (k : Nat) : Nat → Value := fun i => if i < k then .string (A i) else .string ByteArray.empty
theorem mixS_upd (A : Nat → ByteArray) (k : Nat) : upd (mixS A k) k (.string (A k)) = mixS A (k + 1) := by
  funext j
  simp only [upd, mixS]
  by_cases h : j = k
  · subst h; simp
  · by_cases h2 : j < k
    · rw [if_neg h, if_pos h2, if_pos (by omega)]
    · rw [if_neg h, if_neg h2, if_neg (by omega)]

theorem cloneLines_nil (w : World) : Calls Try.prog 19 #[.slice none 0 0] w fun e w' => e = .returned (.slice none 0 0) ∧ w = w' := by
  have q27 : ∀ (w : World) (a : Option Addr) (n c n' c' : Nat), _ := fun w a n c n' c' => Lib.run_eql_slice_nil (P := Try.prog) w 27 9 a n c n' c' Try.underlying27
  go_enter Try.func19, Try.ntmps19
  go_wp2
  go_ret
  exact ⟨rfl, rfl⟩

set_option maxHeartbeats 400000 in
theorem cloneLines_any (x : Addr) (b off n c : Nat) (A : Nat → ByteArray) (w : World) (hn : n ≤ 4096) (hL : Lines w (some x) b off n A) :
    Calls Try.prog 19 #[.slice (some x) n c] w fun e w' => e = .returned (.slice (some ⟨w.heap.size, 0, none⟩) n n) ∧
      Row w' w.heap.size 9 n (strV A) ∧ Below w.heap.size w w' := by
  have q27 : ∀ (w : World) (a : Option Addr) (n c n' c' : Nat), _ := fun w a n c n' c' => Lib.run_eql_slice_nil (P := Try.prog) w 27 9 a n c n' c' Try.underlying27
  obtain ⟨i0, hi, hz0, hz1, hz2⟩ := info_parts Try.info9
  go_enter Try.func19, Try.ntmps19
  go_wp2_with (at_make; refine wpList_make_full _ rfl _ _ 27 rfl w.heap.size 9 i0 (.string ByteArray.empty) 1 Try.underlying27 hi hz0 hz1 _ _ _ _ n rfl rfl rfl rfl ?b2 ?b3 (Nat.le_refl _) ?_)
  case b2 => rw [hz2]; omega
  case b3 => unfold maxLen; omega
  intro w0 hown0 hgrow0
  rw [toList_madeCells_one] at hown0
  have hr0 : Row w0 w.heap.size 9 n (mixS A 0) := Row.of_owns hown0 (fun i hi => by simp [hi, mixS])
  clear hown0 hi hz0 hz1 hz2
  go_wp2
  go_loopw [4] (fun i wr => ∃ k : Nat, k ≤ n ∧ i = .int .i64 k ∧ Row wr w.heap.size 9 n (mixS A k) ∧ Below w.heap.size w wr)
    (fun i _ => n - (intOf i).toNat)
  case atStart => exact ⟨0, Nat.zero_le _, rfl, hr0, (Below.refl _ _).grown hgrow0 (Nat.le_refl _) (fun k h => by cases h)⟩
  case round =>
    obtain ⟨k, hk, rfl, hown, hb⟩ := hrel
    by_cases hlt : k < n
    · obtain ⟨hx, hbl⟩ := hL.at_ (by omega)
      have hx' := Option.some.inj hx
      subst hx'
      have g1 : wr.cell? ⟨b, off + k, none⟩ = some (.string (A k)) := (hb.cell (by exact hbl)).trans (hL.reads k hlt)
      have g2 : wr.cell? ⟨w.heap.size, k, none⟩ = some (mixS A k k) := hown.cell k hlt
      have g3 := hown.free k
      have g4 : mixS A k k = .string ByteArray.empty := by simp [mixS]
      rw [g4] at g2
      have so : Row (wr.setCell ⟨w.heap.size, k, none⟩ (.string (A k))) w.heap.size 9 n (mixS A (k + 1)) := by
        have := hown.set k (.string (A k)); rw [mixS_upd] at this; exact this
      have hb2 : Below w.heap.size w (wr.setCell ⟨w.heap.size, k, none⟩ (.string (A k))) := hb.setCell (by exact Nat.le_refl _) _
      clear hown g4 hx
      go_wp2
      go_roundw
      case rel => exact ⟨k + 1, by omega, by go_num, so, hb2⟩
      case measure => simp [intOf]; omega
    · obtain rfl : k = n := by omega
      go_wp2
      go_ret
      exact ⟨rfl, hown.congr (fun i hi => by simp [strV, mixS, hi]), hb⟩

theorem ret_i64 {a b : Int} (h : a = b) : Ending.returned (.int .i64 a) = .returned (.int .i64 b) := by rw [h]

theorem str_inj {s t : ByteArray} (h : s.toList = t.toList) : s = t := by
  rw [ByteArray.toList_eq, ByteArray.toList_eq] at h
  cases s with | mk a => cases t with | mk b => simp only at h; congr 1; exact Array.ext' h
theorem str_eq_true {s t : ByteArray} (h : s = t) : (s.toList == t.toList) = true := by subst h; simp
theorem str_eq_false {s t : ByteArray} (h : ¬ s = t) : (s.toList == t.toList) = false := by
  rw [beq_eq_false_iff_ne]
  exact fun e => h (str_inj e)

set_option maxHeartbeats 1000000 in
theorem indexIn_any (ad : Option Addr) (b off n c : Nat) (A : Nat → ByteArray) (s : ByteArray) (w : World) (hn : n ≤ 4096) (hL : Lines w ad b off n A) :
    Calls Try.prog 33 #[.slice ad n c, .string s] w fun e w' => e = .returned (.int .i64 (Held.find A s n)) ∧ w = w' := by
  go_enter Try.func33, Try.ntmps33
  go_wp2
  go_loop [5] (fun i => ∃ k : Nat, k ≤ n ∧ i = .int .i64 k ∧ Hid (∀ j, j < k → A j ≠ s)) (fun i => n - (intOf i).toNat)
  case atStart => exact ⟨0, Nat.zero_le _, rfl, fun j hj => by omega⟩
  case round =>
    obtain ⟨k, hk, rfl, hne⟩ := hrel
    by_cases hlt : k < n
    · obtain ⟨rfl, hbl⟩ := hL.at_ (by omega)
      have g1 := hL.cell k hlt
      by_cases he : A k = s
      · have e : Hid (Held.idx A s n = some k) := Held.idx_of hlt he hne.out
        have hb := str_eq_true he
        clear he
        go_wp2
        go_ret
        exact ⟨ret_i64 (Held.find_some e.out).symm, rfl⟩
      · have hb := str_eq_false he
        have HE : Hid (¬ A k = s) := he
        clear he
        go_wp2
        go_round
        case rel =>
          refine ⟨k + 1, by omega, by go_num, fun j hj => ?_⟩
          by_cases e : j = k
          · subst e; exact HE.out
          · exact hne.out j (by omega)
        case measure => simp [intOf]; omega
    · obtain rfl : k = n := by omega
      have e : Hid (Held.idx A s k = none) := Held.idx_none_of hne.out
      go_wp2
      go_ret
      exact ⟨ret_i64 (Held.find_none e.out).symm, rfl⟩

/-- a slice of the call's own: nil, or at the head of a row -/
def OwnS (w : World) (base : Nat) (v : Value) (xs : List Int) : Prop := w.ownsRow base 3 1 v xs.length (xs.map (Value.int .i64))

theorem OwnS.shape {w : World} {base : Nat} {v : Value} {xs : List Int} (h : OwnS w base v xs) :
    ∃ ad g cap, v = .slice ad xs.length cap ∧ (0 < xs.length → ad = some ⟨g, 0, none⟩) ∧ ∀ i, i < xs.length → w.cell? ⟨g, i, none⟩ = some (.int .i64 (xs.getD i 0)) := by
  obtain ⟨h1, h2⟩ := h
  rcases h2 with ⟨h2, h3⟩ | ⟨g, cap, cur, hv, _, hh, hnc, _, hs, ht⟩
  · have hl : xs.length = 0 := h3
    refine ⟨none, 0, 0, by rw [h2, hl], fun h => by omega, fun i hi => by omega⟩
  · refine ⟨_, g, cap, hv, fun _ => rfl, fun i hi => ?_⟩
    rw [cell_of_row w g i cur 3 (0, 0) hh]
    have : (cur.toList.take (xs.length * 1))[i]? = some (.int .i64 (xs.getD i 0)) := by
      rw [ht]
      simp [List.getD, hi]
    rw [List.getElem?_take, if_pos (by omega)] at this
    simpa using this

set_option maxHeartbeats 1000000 in
theorem sameInts_any (v1 v2 : Value) (b1 b2 : Nat) (xs : List Int) (w : World) (hn : xs.length ≤ 4096) (h1 : OwnS w b1 v1 xs) (h2 : OwnS w b2 v2 xs) :
    Calls Try.prog 22 #[v1, v2] w fun e w' => e = .returned (.bool true) ∧ ∃ q, w' = w.drewN q := by
  obtain ⟨a1, g1, c1, rfl, e1, r1⟩ := h1.shape
  obtain ⟨a2, g2, c2, rfl, e2, r2⟩ := h2.shape
  clear h1 h2
  generalize hf : (fun i => xs.getD i 0) = f at *
  have r1' : ∀ i, i < xs.length → w.cell? ⟨g1, i, none⟩ = some (.int .i64 (f i)) := fun i hi => by rw [← hf]; exact r1 i hi
  have r2' : ∀ i, i < xs.length → w.cell? ⟨g2, i, none⟩ = some (.int .i64 (f i)) := fun i hi => by rw [← hf]; exact r2 i hi
  clear r1 r2 hf
  generalize xs.length = n at *
  go_enter Try.func22, Try.ntmps22
  go_wp2
  go_loopw [5] (fun i wr => ∃ k q : Nat, k ≤ n ∧ i = .int .i64 k ∧ wr = w.drewN q) (fun i _ => n - (intOf i).toNat)
  case atStart => exact ⟨0, 0, Nat.zero_le _, rfl, rfl⟩
  case round =>
    obtain ⟨k, q, hk, rfl, rfl⟩ := hrel
    by_cases hlt : k < n
    · have f1 := r1' k hlt
      have f2 := r2' k hlt
      obtain rfl := e1 (by omega)
      obtain rfl := e2 (by omega)
      have hne : (f k != f k) = false := by simp
      go_wp2_with fail
      go_quiet (fail)
      go_wp2
      go_roundw
      case rel => exact ⟨k + 1, q + nq, by omega, by go_num, by simp [World.drewN, Nat.add_assoc]⟩
      case measure => simp [intOf]; omega
    · go_wp2
      go_ret
      exact ⟨rfl, q, rfl⟩

/-- some bool is returned -/
def SomeBool (e : Ending) : Prop := ∃ r, e = .returned (.bool r)

set_option maxHeartbeats 2000000 in
theorem zz17 (ad bd : Option Addr) (b off n c b' off' m c' : Nat) (A B : Nat → ByteArray) (w : World) (hn : n ≤ maxLen) (hm : m ≤ maxLen) (hA : Lines w ad b off n A) (hB : Lines w bd b' off' m B)
    (sA : ∀ i, i < n → (A i).size ≤ maxLen) (sB : ∀ i, i < m → (B i).size ≤ maxLen) :
    Calls Try.prog 17 #[.slice ad n c, .slice bd m c'] w fun e w' => SomeBool e ∧ w = w' := by
  unfold maxLen at hn hm sA sB
  go_enter Try.func17, Try.ntmps17
  go_wp2
  · go_ret
    exact ⟨⟨_, rfl⟩, rfl⟩
  · go_loop [5, 6] (fun z i => ∃ (t : Int) (k : Nat), 0 ≤ t ∧ t ≤ 1048576 ∧ k ≤ n ∧ z = .int .i64 t ∧ i = .int .i64 k) (fun _ i => n - (intOf i).toNat)
    case atStart => exact ⟨_, 0, by omega, by omega, Nat.zero_le _, rfl, rfl⟩
    case round =>
      obtain ⟨t, k, t0, t1, hk, rfl, rfl⟩ := hrel
      by_cases hlt : k < n
      · obtain ⟨rfl, _⟩ := hA.at_ (by omega)
        have g1 := hA.cell k hlt
        have g2 := sA k hlt
        generalize A k = s at g1 g2
        go_wp2
        all_goals first
          | (go_ret; exact ⟨⟨_, rfl⟩, rfl⟩)
          | (go_round
             case rel => exact ⟨_, k + 1, by omega, by omega, by omega, rfl, by go_num⟩
             case measure => simp [intOf]; omega)
      · go_wp2
        all_goals first
          | (go_ret; exact ⟨⟨_, rfl⟩, rfl⟩)
          | (go_loop [5, 7] (fun z i => ∃ (t : Int) (k : Nat), 0 ≤ t ∧ t ≤ 1048576 ∧ k ≤ m ∧ z = .int .i64 t ∧ i = .int .i64 k) (fun _ i => m - (intOf i).toNat)
             case atStart => exact ⟨_, 0, by omega, by omega, Nat.zero_le _, rfl, rfl⟩
             case round =>
               obtain ⟨t', k', t0', t1', hk', rfl, rfl⟩ := hrel
               by_cases hlt' : k' < m
               · obtain ⟨rfl, _⟩ := hB.at_ (by omega)
                 have g1 := hB.cell k' hlt'
                 have g2 := sB k' hlt'
                 generalize B k' = s at g1 g2
                 go_wp2
                 all_goals first
                   | (go_ret; exact ⟨⟨_, rfl⟩, rfl⟩)
                   | (go_round
                      case rel => exact ⟨_, k' + 1, by omega, by omega, by omega, rfl, by go_num⟩
                      case measure => simp [intOf]; omega)
               · go_wp2
                 go_ret
                 exact ⟨⟨_, rfl⟩, rfl⟩)

set_option maxHeartbeats 2000000 in
theorem fit18 (ad bd : Option Addr) (b off n c b' off' m c' : Nat) (A B : Nat → ByteArray) (w : World) (hn : n ≤ 4096) (hm : m ≤ 4096) (hA : Lines w ad b off n A) (hB : Lines w bd b' off' m B)
    (sA : ∀ i, i < n → (A i).size ≤ maxLen) (sB : ∀ i, i < m → (B i).size ≤ maxLen) :
    Calls Try.prog 18 #[.slice ad n c, .slice bd m c'] w fun e w' => SomeBool e ∧ w = w' := by
  unfold maxLen at sA sB
  go_enter Try.func18, Try.ntmps18
  go_wp2
  go_loop [5, 6] (fun z i => ∃ (t : Int) (k : Nat), k ≤ n ∧ z = .int .i64 t ∧ i = .int .i64 k) (fun _ i => n - (intOf i).toNat)
  case atStart => exact ⟨_, 0, Nat.zero_le _, rfl, rfl⟩
  case round =>
    obtain ⟨t, k, hk, rfl, rfl⟩ := hrel
    by_cases hlt : k < n
    · obtain ⟨rfl, _⟩ := hA.at_ (by omega)
      have g1 := hA.cell k hlt
      have g2 := sA k hlt
      generalize A k = s at g1 g2
      go_wp2
      all_goals first
        | (go_ret; exact ⟨⟨_, rfl⟩, rfl⟩)
        | (go_round
           case rel => exact ⟨_, k + 1, by omega, rfl, by go_num⟩
           case measure => simp [intOf]; omega)
    · go_wp2
      go_loop [5, 7] (fun z i => ∃ (t : Int) (k : Nat), k ≤ m ∧ z = .int .i64 t ∧ i = .int .i64 k) (fun _ i => m - (intOf i).toNat)
      case atStart => exact ⟨_, 0, Nat.zero_le _, rfl, rfl⟩
      case round =>
        obtain ⟨t', k', hk', rfl, rfl⟩ := hrel
        by_cases hlt' : k' < m
        · obtain ⟨rfl, _⟩ := hB.at_ (by omega)
          have g1 := hB.cell k' hlt'
          have g2 := sB k' hlt'
          generalize B k' = s at g1 g2
          go_wp2
          all_goals first
            | (go_ret; exact ⟨⟨_, rfl⟩, rfl⟩)
            | (go_round
               case rel => exact ⟨_, k' + 1, by omega, rfl, by go_num⟩
               case measure => simp [intOf]; omega)
        · go_wp2
          go_ret
          exact ⟨⟨_, rfl⟩, rfl⟩

end Go.Proofs.Qxb6601047a
