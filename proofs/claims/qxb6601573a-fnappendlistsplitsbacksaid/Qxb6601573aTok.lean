/-
  joinModel (16), tokenModel (15).
-/
import Derived.Test.Qxb6601573aLists
namespace Go.Proofs.Qxb6601573a
open Go.RowKit
set_option linter.unusedSimpArgs false
set_option linter.unusedVariables false

/-- every item followed by a comma -/
def cm (A : Nat → ByteArray) : Nat → List Int
  | 0 => []
  | k + 1 => cm A k ++ (bs (A k) ++ [44])
theorem cm_length (A : Nat → ByteArray) : ∀ k, (cm A k).length = tot A k + k
  | 0 => rfl
  | k + 1 => by
    have := cm_length A k
    simp only [cm, tot, List.length_append, bs_length, List.length_cons, List.length_nil]
    omega
theorem cm_joined (A : Nat → ByteArray) : ∀ k, cm A (k + 1) = joined A (k + 1) ++ [44]
  | 0 => by simp [cm, joined]
  | k + 1 => by
    have := cm_joined A k
    rw [show cm A (k + 1 + 1) = cm A (k + 1) ++ (bs (A (k + 1)) ++ [44]) from rfl, this]
    simp [joined]
theorem cm_split {A : Nat → ByteArray} {i : Nat} : ∀ d, ∃ rest, cm A (i + 1 + d) = cm A i ++ (bs (A i) ++ 44 :: rest)
  | 0 => ⟨[], by simp [cm]⟩
  | d + 1 => by
    obtain ⟨rest, h⟩ := cm_split (A := A) (i := i) d
    exact ⟨rest ++ (bs (A (i + 1 + d)) ++ [44]), by rw [← Nat.add_assoc, show cm A (i + 1 + d + 1) = cm A (i + 1 + d) ++ (bs (A (i + 1 + d)) ++ [44]) from rfl, h]; simp⟩
theorem getD_mid {P X R : List Int} {c : Int} {j : Nat} (hj : j < X.length) : (P ++ (X ++ c :: R)).getD (P.length + j) 0 = X.getD j 0 := by
  simp only [List.getD_eq_getElem?_getD, List.getElem?_append, if_neg (show ¬ P.length + j < P.length by omega)]
  rw [show P.length + j - P.length = j by omega, if_pos hj]
theorem getD_end {P X R : List Int} {c : Int} : (P ++ (X ++ c :: R)).getD (P.length + X.length) 0 = c := by
  simp only [List.getD_eq_getElem?_getD, List.getElem?_append, if_neg (show ¬ P.length + X.length < P.length by omega)]
  rw [show P.length + X.length - P.length = X.length by omega, if_neg (by omega)]
  simp
theorem cm_byte {A : Nat → ByteArray} {i m j : Nat} (hi : i < m) (hj : j < (A i).size) : (cm A m).getD ((cm A i).length + j) 0 = ((A i)[j].toNat : Int) := by
  obtain ⟨rest, h⟩ := cm_split (A := A) (i := i) (m - (i + 1))
  rw [show i + 1 + (m - (i + 1)) = m by omega] at h
  rw [h, getD_mid (by rw [bs_length]; exact hj), bs_getD hj]
theorem cm_comma {A : Nat → ByteArray} {i m : Nat} (hi : i < m) : (cm A m).getD ((cm A i).length + (A i).size) 0 = 44 := by
  obtain ⟨rest, h⟩ := cm_split (A := A) (i := i) (m - (i + 1))
  rw [show i + 1 + (m - (i + 1)) = m by omega] at h
  rw [h, ← bs_length (A i), getD_end]
theorem cm_lt {A : Nat → ByteArray} {i m : Nat} (hi : i < m) : (cm A i).length + (A i).size + 1 ≤ (cm A m).length := by
  have := tot_le A (i + 1) (m - (i + 1))
  rw [show i + 1 + (m - (i + 1)) = m by omega] at this
  rw [cm_length, cm_length]
  simp only [tot] at this
  omega

/-- the row after one more byte -/
theorem Row.put {w : World} {g N k : Nat} {T : List Int} {z : Int} (h : Row w g 5 N (mixB T k)) (hz : T.getD k 0 = z) : Row (w.setCell ⟨g, k, none⟩ (.int .u8 z)) g 5 N (mixB T (k + 1)) := by
  have := h.set k (.int .u8 (T.getD k 0)); rw [mixB_upd, hz] at this; exact this
theorem Row.zero {w : World} {g N k : Nat} {T : List Int} (h : Row w g 5 N (mixB T k)) (hk : k < N) : w.cell? ⟨g, k, none⟩ = some (.int .u8 0) := by
  have : w.cell? ⟨g, k, none⟩ = some (.int .u8 (if k < k then T.getD k 0 else 0)) := h.cell k hk
  rwa [if_neg (Nat.lt_irrefl k)] at this

/-- a slice of N - 1 of a new row of N bytes T -/
def Cut (T : List Int) (N : Nat) (w : World) (e : Ending) (w' : World) : Prop :=
  e = .returned (.slice (some ⟨w.heap.size, 0, none⟩) (N - 1) N) ∧ Row w' w.heap.size 5 N (mixB T N) ∧ Below w.heap.size w w'

set_option maxHeartbeats 1000000 in
theorem join_any (al : Option Addr) (bl ol m d : Nat) (A : Nat → ByteArray) (w : World) (hm : m ≤ 65536) (hp : 0 < m) (hS : Strs w al bl ol m A) (ht : tot A m ≤ 1048576) :
    Calls Try.prog 16 #[.slice al m d] w (Cut (cm A m) (tot A m + m) w) := by
  have hN := cm_length A m
  obtain rfl := hS.at_ hp
  have hbl : bl < w.heap.size := World.block_lt_of_cell? w ⟨bl, ol + 0, none⟩ (hS.cell 0 hp)
  obtain ⟨i0, hi, hz0, hz1, hz2⟩ := info_parts info5
  go_enter Try.func16, Try.ntmps16
  go_wp2_with fail
  go_loop [3, 4] (fun t i => ∃ k : Nat, k ≤ m ∧ i = .int .i64 k ∧ t = .int .i64 ((tot A k + k : Nat) : Int)) (fun _ i => m - (intOf i).toNat)
  case atStart => exact ⟨0, Nat.zero_le _, rfl, rfl⟩
  case round =>
    obtain ⟨k, hk, rfl, rfl⟩ := hrel
    by_cases hlt : k < m
    · have g1 := hS.cell k hlt
      have h1 := tot_at (A := A) hlt
      have h2 := tot_le A k (m - k)
      rw [show k + (m - k) = m by omega] at h2
      have h3 : Hid (tot A (k + 1) + (k + 1) = tot A k + k + ((A k).size + 1)) := by show _ = _; simp only [tot]; omega
      generalize A k = s at *
      generalize tot A k = t0 at *
      go_wp2_with fail
      go_round
      case rel => exact ⟨k + 1, by omega, by go_num, by rw [h3.out]; go_num⟩
      case measure => simp [intOf]; omega
    · obtain rfl : k = m := by omega
      have hNN : Hid ((cm A k).length = tot A k + k) := hN
      clear hN
      generalize hT : tot A k + k = N at *
      have hNp : 0 < N := by omega
      have hNs : N ≤ 2097152 := by omega
      go_wp2_with (at_make; refine wpList_make_full _ rfl _ _ 22 rfl w.heap.size 5 i0 (.int .u8 0) 1 Try.underlying22 hi hz0 hz1 _ _ _ _ N rfl rfl rfl rfl ?b2 ?b3 (Nat.le_refl _) ?_)
      case b2 => first | omega | (rw [hz2]; omega)
      case b3 => unfold maxLen; omega
      intro w0 hown0 hgrow0
      rw [toList_madeCells_one] at hown0
      have hr0 : Row w0 w.heap.size 5 N (mixB (cm A k) 0) := Row.of_owns hown0 (fun i hi => by simp [hi, mixB])
      clear hown0 hi hz0 hz1 hz2
      go_wp2_with fail
      go_loopw [6, 7, 8, 9] (fun q i s8 s9 wr => ∃ r : Nat, r ≤ k ∧ i = .int .i64 r ∧ q = .int .i64 ((cm A r).length : Nat) ∧ Row wr w.heap.size 5 N (mixB (cm A k) (cm A r).length) ∧ Below w.heap.size w wr) (fun _ i _ _ _ => k - (intOf i).toNat)
      case atStart => exact ⟨0, Nat.zero_le _, rfl, rfl, hr0, (Below.refl _ _).grown hgrow0 (Nat.le_refl _) (fun k h => by cases h)⟩
      case round =>
        obtain ⟨r, hr, rfl, rfl, hrow, hb⟩ := hrel
        by_cases hlr : r < k
        · have g1 : wr.cell? ⟨bl, ol + r, none⟩ = some (.string (A r)) := (hb.cell (by exact hbl)).trans (hS.cell r hlr)
          have hfit : Hid ((cm A r).length + (A r).size + 1 ≤ N) := by show _ ≤ N; rw [← hNN.out]; exact cm_lt hlr
          have hbyte : Hid (∀ j (h : j < (A r).size), (cm A k).getD ((cm A r).length + j) 0 = ((A r)[j].toNat : Int)) := fun j h => cm_byte hlr h
          have hcomma : Hid ((cm A k).getD ((cm A r).length + (A r).size) 0 = 44) := cm_comma hlr
          have hnext : Hid ((cm A (r + 1)).length = (cm A r).length + (A r).size + 1) := by show _ = _; simp [cm, bs_length]; omega
          have hfit2 := hfit.out
          generalize A r = s at *
          generalize (cm A r).length = L at *
          go_wp2_with fail
          go_loopw [6, 9] (fun q i wr => ∃ j : Nat, j ≤ s.size ∧ i = .int .i64 j ∧ q = .int .i64 ((L + j : Nat) : Int) ∧ Row wr w.heap.size 5 N (mixB (cm A k) (L + j)) ∧ Below w.heap.size w wr) (fun _ i _ => s.size - (intOf i).toNat)
          case atStart => exact ⟨0, Nat.zero_le _, rfl, rfl, hrow, hb⟩
          case round =>
            obtain ⟨j, hj, rfl, rfl, hrow, hb⟩ := hrel
            by_cases hlj : j < s.size
            · have c1 := hrow.zero (show L + j < N by omega)
              have c2 := hrow.free (L + j)
              have so := hrow.put (hbyte.out j hlj)
              have hb2 : Below w.heap.size w (_root_.Go.World.setCell _ ⟨w.heap.size, L + j, none⟩ (.int .u8 (s[j].toNat : Int))) := hb.setCell (by exact Nat.le_refl _) _
              clear hrow
              go_wp2_with fail
              go_roundw
              case rel => exact ⟨j + 1, by omega, by go_num, by go_num, so, hb2⟩
              case measure => simp [intOf]; omega
            · obtain rfl : j = s.size := by omega
              have c1 := hrow.zero (show L + s.size < N by omega)
              have c2 := hrow.free (L + s.size)
              have so := hrow.put hcomma.out
              have hb2 : Below w.heap.size w (_root_.Go.World.setCell _ ⟨w.heap.size, L + s.size, none⟩ (.int .u8 44)) := hb.setCell (by exact Nat.le_refl _) _
              clear hrow
              go_wp2_with fail
              go_roundw
              case rel => exact ⟨r + 1, by omega, by go_num, by rw [hnext.out]; go_num, by rw [hnext.out]; exact so, hb2⟩
              case measure => simp [intOf]; omega
        · obtain rfl : r = k := by omega
          have hrow2 : Row wr w.heap.size 5 N (mixB (cm A r) N) := by rw [← hNN.out]; rw [hNN.out]; rw [hNN.out] at hrow; exact hrow
          clear hrow
          go_wp2_with fail
          go_ret
          exact ⟨rfl, hrow2, hb⟩

/-- the line, a space, the key, '=', the value -/
def tok (l : List Int) (key : ByteArray) (v : List Int) : List Int := l ++ 32 :: (bs key ++ 61 :: v)
theorem tok_length (l : List Int) (key : ByteArray) (v : List Int) : (tok l key v).length = l.length + key.size + v.length + 2 := by simp [tok, bs_length]; omega
theorem tok_keyed (l : List Int) (key : ByteArray) (v : List Int) : tok l key v = keyed l key ++ v := by simp [tok, keyed]
theorem tok1 {l v : List Int} {key : ByteArray} {i : Nat} (h : i < l.length) : (tok l key v).getD i 0 = l.getD i 0 := by simp [tok, List.getD, List.getElem?_append, h]
theorem tok2 {l v : List Int} {key : ByteArray} : (tok l key v).getD l.length 0 = 32 := by simp [tok, List.getD, List.getElem?_append]
theorem tok3 {l v : List Int} {key : ByteArray} {i : Nat} (h : i < key.size) : (tok l key v).getD (l.length + 1 + i) 0 = (key[i].toNat : Int) := by
  rw [← bs_getD h, show l.length + 1 + i = (l ++ [32]).length + i by simp]
  rw [show tok l key v = (l ++ [32]) ++ (bs key ++ 61 :: v) by simp [tok]]
  exact getD_mid (by rw [bs_length]; exact h)
theorem tok4 {l v : List Int} {key : ByteArray} : (tok l key v).getD (l.length + 1 + key.size) 0 = 61 := by
  rw [show l.length + 1 + key.size = (l ++ [32]).length + (bs key).length by simp [bs_length]]
  rw [show tok l key v = (l ++ [32]) ++ (bs key ++ 61 :: v) by simp [tok]]
  exact getD_end
theorem tok5 {l v : List Int} {key : ByteArray} {i : Nat} (h : i < v.length) : (tok l key v).getD (l.length + 1 + key.size + 1 + i) 0 = v.getD i 0 := by
  rw [tok_keyed, show l.length + 1 + key.size + 1 + i = (keyed l key).length + i by simp [keyed, bs_length]; omega]
  simp only [List.getD_eq_getElem?_getD, List.getElem?_append, if_neg (show ¬ (keyed l key).length + i < (keyed l key).length by omega)]
  rw [show (keyed l key).length + i - (keyed l key).length = i by omega]

set_option maxHeartbeats 1000000 in
theorem tok_any (ad av : Option Addr) (b off n c bv ov nv cv : Nat) (l lv : List Int) (key : ByteArray) (w : World) (hn : n ≤ 16777216) (hk : key.size ≤ 16777216) (hv : nv ≤ 16777216) (hL : Byts w ad b off n l) (hV : Byts w av bv ov nv lv) :
    Calls Try.prog 15 #[.slice ad n c, .string key, .slice av nv cv] w (Fresh (tok l key lv) w) := by
  have hT := tok_length l key lv
  rw [hL.len, hV.len] at hT
  have f1 : Hid (∀ i, i < n → (tok l key lv).getD i 0 = l.getD i 0) := fun i h => tok1 (by rw [hL.len]; exact h)
  have f2 : Hid ((tok l key lv).getD n 0 = 32) := by show _ = _; rw [← hL.len]; exact tok2
  have f3 : Hid (∀ i (h : i < key.size), (tok l key lv).getD (n + 1 + i) 0 = (key[i].toNat : Int)) := fun i h => by rw [← hL.len]; exact tok3 h
  have f4 : Hid ((tok l key lv).getD (n + 1 + key.size) 0 = 61) := by show _ = _; rw [← hL.len]; exact tok4
  have f5 : Hid (∀ i, i < nv → (tok l key lv).getD (n + 1 + key.size + 1 + i) 0 = lv.getD i 0) := fun i h => by rw [← hL.len]; exact tok5 (by rw [hV.len]; exact h)
  have HT : Hid ((tok l key lv).length = n + key.size + nv + 2) := hT
  clear hT
  generalize tok l key lv = T at *
  obtain ⟨i0, hi, hz0, hz1, hz2⟩ := info_parts info5
  have hNs : n + key.size + nv + 2 ≤ 1099511627776 := by omega
  go_enter Try.func15, Try.ntmps15
  go_wp2_with (at_make; refine wpList_make_full _ rfl _ _ 22 rfl w.heap.size 5 i0 (.int .u8 0) 1 Try.underlying22 hi hz0 hz1 _ _ _ _ (n + key.size + nv + 2) rfl rfl rfl rfl ?b2 ?b3 (Nat.le_refl _) ?_)
  case b2 => first | omega | (rw [hz2]; omega)
  case b3 => unfold maxLen; omega
  intro w0 hown0 hgrow0
  rw [toList_madeCells_one] at hown0
  have hr0 : Row w0 w.heap.size 5 (n + key.size + nv + 2) (mixB T 0) := Row.of_owns hown0 (fun i hi => by simp [hi, mixB])
  clear hown0 hi hz0 hz1 hz2
  go_wp2_with fail
  go_loopw [8, 9] (fun q i wr => ∃ k : Nat, k ≤ n ∧ i = .int .i64 k ∧ q = .int .i64 k ∧ Row wr w.heap.size 5 (n + key.size + nv + 2) (mixB T k) ∧ Below w.heap.size w wr) (fun _ i _ => n - (intOf i).toNat)
  case atStart => exact ⟨0, Nat.zero_le _, rfl, rfl, hr0, (Below.refl _ _).grown hgrow0 (Nat.le_refl _) (fun k h => by cases h)⟩
  case round =>
    obtain ⟨k, hk1, rfl, rfl, hrow, hb⟩ := hrel
    by_cases hlt : k < n
    · obtain rfl := hL.at_ (by omega)
      have hc := hL.cell k hlt
      have hbl := World.block_lt_of_cell? w ⟨b, off + k, none⟩ hc
      have g1 : wr.cell? ⟨b, off + k, none⟩ = some (.int .u8 (l.getD k 0)) := (hb.cell (by exact hbl)).trans hc
      have c1 := hrow.zero (show k < n + key.size + nv + 2 by omega)
      have c2 := hrow.free k
      have so := hrow.put (f1.out k hlt)
      have hb2 : Below w.heap.size w (wr.setCell ⟨w.heap.size, k, none⟩ (.int .u8 (l.getD k 0))) := hb.setCell (by exact Nat.le_refl _) _
      clear hrow hc hbl
      generalize l.getD k 0 = z at *
      go_wp2_with fail
      go_roundw
      case rel => exact ⟨k + 1, by omega, by go_num, by go_num, so, hb2⟩
      case measure => simp [intOf]; omega
    · obtain rfl : k = n := by omega
      have c1 := hrow.zero (show k < k + key.size + nv + 2 by omega)
      have c2 := hrow.free k
      have so := hrow.put f2.out
      have hb2 : Below w.heap.size w (wr.setCell ⟨w.heap.size, k, none⟩ (.int .u8 32)) := hb.setCell (by exact Nat.le_refl _) _
      clear hrow hb hr0 hgrow0
      go_wp2_with fail
      go_loopw [8, 10] (fun q i wr => ∃ j : Nat, j ≤ key.size ∧ i = .int .i64 j ∧ q = .int .i64 ((k + 1 + j : Nat) : Int) ∧ Row wr w.heap.size 5 (k + key.size + nv + 2) (mixB T (k + 1 + j)) ∧ Below w.heap.size w wr) (fun _ i _ => key.size - (intOf i).toNat)
      case atStart => exact ⟨0, Nat.zero_le _, rfl, by go_num, so, hb2⟩
      case round =>
        obtain ⟨j, hj, rfl, rfl, hrow, hb⟩ := hrel
        by_cases hlj : j < key.size
        · have c3 := hrow.zero (show k + 1 + j < k + key.size + nv + 2 by omega)
          have c4 := hrow.free (k + 1 + j)
          have so2 := hrow.put (f3.out j hlj)
          have hb3 : Below w.heap.size w (_root_.Go.World.setCell _ ⟨w.heap.size, k + 1 + j, none⟩ (.int .u8 (key[j].toNat : Int))) := hb.setCell (by exact Nat.le_refl _) _
          clear hrow
          go_wp2_with fail
          go_roundw
          case rel => exact ⟨j + 1, by omega, by go_num, by go_num, so2, hb3⟩
          case measure => simp [intOf]; omega
        · obtain rfl : j = key.size := by omega
          have c3 := hrow.zero (show k + 1 + key.size < k + key.size + nv + 2 by omega)
          have c4 := hrow.free (k + 1 + key.size)
          have so2 := hrow.put f4.out
          have hb3 : Below w.heap.size w (_root_.Go.World.setCell _ ⟨w.heap.size, k + 1 + key.size, none⟩ (.int .u8 61)) := hb.setCell (by exact Nat.le_refl _) _
          clear hrow hb
          go_wp2_with fail
          go_loopw [8, 11] (fun q i wr => ∃ r : Nat, r ≤ nv ∧ i = .int .i64 r ∧ q = .int .i64 ((k + 1 + key.size + 1 + r : Nat) : Int) ∧ Row wr w.heap.size 5 (k + key.size + nv + 2) (mixB T (k + 1 + key.size + 1 + r)) ∧ Below w.heap.size w wr) (fun _ i _ => nv - (intOf i).toNat)
          case atStart => exact ⟨0, Nat.zero_le _, rfl, by go_num, so2, hb3⟩
          case round =>
            obtain ⟨r, hr, rfl, rfl, hrow, hb⟩ := hrel
            by_cases hlr : r < nv
            · obtain rfl := hV.at_ (by omega)
              have hc := hV.cell r hlr
              have hbl := World.block_lt_of_cell? w ⟨bv, ov + r, none⟩ hc
              have g1 := (hb.cell (p := ⟨bv, ov + r, none⟩) (by exact hbl)).trans hc
              have c5 := hrow.zero (show k + 1 + key.size + 1 + r < k + key.size + nv + 2 by omega)
              have c6 := hrow.free (k + 1 + key.size + 1 + r)
              have so3 := hrow.put (f5.out r hlr)
              have hb4 : Below w.heap.size w (_root_.Go.World.setCell _ ⟨w.heap.size, k + 1 + key.size + 1 + r, none⟩ (.int .u8 (lv.getD r 0))) := hb.setCell (by exact Nat.le_refl _) _
              clear hrow hc hbl
              generalize lv.getD r 0 = z at *
              go_wp2_with fail
              go_roundw
              case rel => exact ⟨r + 1, by omega, by go_num, by go_num, so3, hb4⟩
              case measure => simp [intOf]; omega
            · obtain rfl : r = nv := by omega
              go_wp2_with fail
              go_ret
              exact ⟨_, rfl, hrow.buf HT.out (fun i hi => by simp [mixB, show i < k + 1 + key.size + 1 + r by omega]) (by unfold maxLen; omega), (fun j h => by cases h; exact Nat.le_refl _), hb⟩
