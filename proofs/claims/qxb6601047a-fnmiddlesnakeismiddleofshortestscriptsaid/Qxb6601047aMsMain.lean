import Derived.Test.Qxb6601047aMsL1
namespace Go.Proofs.Qxb6601047a
open Go.RowKit
set_option linter.unusedSimpArgs false
set_option linter.unusedVariables false

def zer (n : Nat) : Array Value := ((List.range n).map (fun _ => Value.int .i64 0)).toArray
theorem zer_eq (n : Nat) : madeCells (Value.cells (.int .i64 0)) (n * 1) = zer n := by
  apply Array.ext'
  rw [show Value.cells (.int .i64 0) = #[Value.int .i64 0] from rfl, toList_madeCells_one]
  simp [zer, List.map_const']
theorem mk_any (n m : Nat) (hn : n ≤ 512) (hm : m ≤ 512) (w : World) : (Instr.makeSlice 30 (.int .i64 ((n : Int) + m + 3)) (.int .i64 ((n : Int) + m + 3))).run Try.prog w = .ok (.slice (some ⟨w.heap.size, 0, none⟩) (n + m + 3) (n + m + 3)) (w.alloc (.cells (zer (n + m + 3)) 3)) := by
  obtain ⟨i0, hi, hz0, hz1, hz2⟩ := info_parts Try.info3
  have hr := run_make (P := Try.prog) w 30 3 i0 (.int .i64 0) Try.underlying30 hi hz0 .i64 .i64 ((n : Int) + m + 3) ((n : Int) + m + 3) (by omega) (by omega) (by rw [hz2]; omega) (by omega)
  rw [hr, hz1]
  have e2 : ((n : Int) + m + 3).toNat = n + m + 3 := by omega
  rw [e2, zer_eq]

theorem slot_getD (a : Act) (i : Nat) : a.tmps.getD i undef = slot a i := by
  unfold slot
  rw [Array.getD_eq_getD_getElem?, List.getD_eq_getElem?_getD, Array.getElem?_toList]

theorem results5 {fn : Func} {t1 t2 t3 t4 t5 : Tmp} (h : fn.results = #[.tmp t1, .tmp t2, .tmp t3, .tmp t4, .tmp t5]) (tmps : Array Value) (P : Program) (w : World) :
    (results fn tmps).run P w = .ok (.tuple #[tmps.getD t1 undef, tmps.getD t2 undef, tmps.getD t3 undef, tmps.getD t4 undef, tmps.getD t5 undef]) w := by
  simp [results, h]

def five (x y u v : Int) (b : Bool) : Value := .tuple #[.int .i64 x, .int .i64 y, .int .i64 u, .int .i64 v, .bool b]

theorem ret34 {R : Ending → World → Prop} {x y u v : Int} {b : Bool} {a : Act} {w : World} (h : RetS x y u v b a) (hR : R (.returned (five x y u v b)) w) : bodyPost Try.prog Try.f34 R .ret a w := by
  refine bodyPost_ret (results5 rfl _ _ _) h.ok.2 ?_
  rw [slot_getD, slot_getD, slot_getD, slot_getD, slot_getD, h.s6, h.s7, h.s8, h.s9, h.s10]
  exact hR

/-- the memory as it stands behind the two makes -/
theorem mem_start (ba bb pl n m h2 h3 : Nat) (A B : Int → Int) (L : Int) (w : World) (a1 : ba < pl) (a2 : bb < pl) (hpl : pl < w.heap.size)
    (ra : Row w ba 3 n (lineV A)) (rb : Row w bb 3 m (lineV B)) (rl : Row w pl 3 1 (oneV L)) (e : (h2 = w.heap.size + 2 ∧ h3 = w.heap.size + 3) ∨ (h2 = w.heap.size + 3 ∧ h3 = w.heap.size + 2)) :
    Mem ⟨ba, bb, pl, w.heap.size, w.heap.size + 1, h2, h3, n, m, A, B, w⟩ (fillF m 0) (fillF m 0) L
      ((((w.alloc (.cells #[.int .i64 n] 3)).alloc (.cells #[.int .i64 m] 3)).alloc (.cells (zer (n + m + 3)) 3)).alloc (.cells (zer (n + m + 3)) 3)).drew := by
  have z : ∀ (v : World) (b : Nat), v.heap[b]? = some (.cells (zer (n + m + 3)) 3 (0, 0)) → Row v b 3 (n + m + 3) (diagV m (fillF m 0)) := by
    intro v b h
    have : Row v b 3 (n + m + 3) (fun _ => .int .i64 0) := h
    refine this.congr (fun i hi => ?_)
    simp only [diagV, fillF]
    rw [if_neg (by omega)]
  have s1 : (w.alloc (.cells #[.int .i64 n] 3)).heap.size = w.heap.size + 1 := by simp
  have s2 : ((w.alloc (.cells #[.int .i64 n] 3)).alloc (.cells #[.int .i64 m] 3)).heap.size = w.heap.size + 2 := by simp
  have s3 : (((w.alloc (.cells #[.int .i64 n] 3)).alloc (.cells #[.int .i64 m] 3)).alloc (.cells (zer (n + m + 3)) 3)).heap.size = w.heap.size + 3 := by simp
  have k1 : ∀ (v : World) (o : Obj) (b : Nat), b = v.heap.size → (v.alloc o).heap[b]? = some o := by
    intro v o b hb; subst hb; show (v.heap.push o)[v.heap.size]? = _; simp
  have rn : Row ((((w.alloc (.cells #[.int .i64 n] 3)).alloc (.cells #[.int .i64 m] 3)).alloc (.cells (zer (n + m + 3)) 3)).alloc (.cells (zer (n + m + 3)) 3)) w.heap.size 3 1 (oneV n) := by
    refine Row.alloc (Row.alloc (Row.alloc ?_ _) _) _
    exact k1 w _ _ rfl
  have rm : Row ((((w.alloc (.cells #[.int .i64 n] 3)).alloc (.cells #[.int .i64 m] 3)).alloc (.cells (zer (n + m + 3)) 3)).alloc (.cells (zer (n + m + 3)) 3)) (w.heap.size + 1) 3 1 (oneV m) := by
    refine Row.alloc (Row.alloc ?_ _) _
    exact k1 _ _ _ s1.symm
  have q2 : Row ((((w.alloc (.cells #[.int .i64 n] 3)).alloc (.cells #[.int .i64 m] 3)).alloc (.cells (zer (n + m + 3)) 3)).alloc (.cells (zer (n + m + 3)) 3)) (w.heap.size + 2) 3 (n + m + 3) (diagV m (fillF m 0)) := by
    refine Row.alloc ?_ _
    exact z _ _ (k1 _ _ _ s2.symm)
  have q3 : Row ((((w.alloc (.cells #[.int .i64 n] 3)).alloc (.cells #[.int .i64 m] 3)).alloc (.cells (zer (n + m + 3)) 3)).alloc (.cells (zer (n + m + 3)) 3)) (w.heap.size + 3) 3 (n + m + 3) (diagV m (fillF m 0)) :=
    z _ _ (k1 _ _ _ s3.symm)
  refine Mem.drew ⟨(((ra.alloc _).alloc _).alloc _).alloc _, (((rb.alloc _).alloc _).alloc _).alloc _, (((rl.alloc _).alloc _).alloc _).alloc _, rn, rm, ?_, ?_, ?_⟩
  · rcases e with ⟨rfl, rfl⟩ | ⟨rfl, rfl⟩
    · exact q2
    · exact q3
  · rcases e with ⟨rfl, rfl⟩ | ⟨rfl, rfl⟩
    · exact q3
    · exact q2
  · show Below pl w _
    exact ((((Below.refl _ _).alloc (by omega) _).alloc (by simp; omega) _).alloc (by simp; omega) _).alloc (by simp; omega) _

set_option maxRecDepth 100000 in
set_option maxHeartbeats 1000000 in
theorem ms_any (ba bb pl n m : Nat) (A B : Int → Int) (L : Int) (w : World) (hn : n ≤ 512) (hm : m ≤ 512) (n1 : 1 ≤ n) (m1 : 1 ≤ m) (a1 : ba < pl) (a2 : bb < pl) (hpl : pl < w.heap.size)
    (ra : Row w ba 3 n (lineV A)) (rb : Row w bb 3 m (lineV B)) (rl : Row w pl 3 1 (oneV L)) (l1 : -1073741824 ≤ L) (l2 : L ≤ 1073741824) (hsafe : (⟨A, B, n, m⟩ : Ms.Pm).AllSafe) :
    Calls Try.prog 34 #[.slice (some ⟨ba, 0, none⟩) n n, .slice (some ⟨bb, 0, none⟩) m m, .pointer (some ⟨pl, 0, none⟩)] w fun e w' =>
      ∃ x y u v b L', e = .returned (five x y u v b) ∧ (⟨A, B, n, m⟩ : Ms.Pm).Out L x y u v b L' ∧ Row w' pl 3 1 (oneV L') ∧ Below pl w w' := by
  have hmk := mk_any n m hn hm
  have key : ∀ h2 h3, (h2 = w.heap.size + 2 ∧ h3 = w.heap.size + 3) ∨ (h2 = w.heap.size + 3 ∧ h3 = w.heap.size + 2) → Hid (∀ a, Base0 ⟨ba, bb, pl, w.heap.size, w.heap.size + 1, h2, h3, n, m, A, B, w⟩ ((n - m : Int).tmod 2 != 0) a →
      Wp34 [1, 1, 1, 1, 1] (bodyPost Try.prog Try.f34 fun e w' => ∃ x y u v b L', e = .returned (five x y u v b) ∧ (⟨A, B, n, m⟩ : Ms.Pm).Out L x y u v b L' ∧ Row w' pl 3 1 (oneV L') ∧ Below pl w w') a
        ((((w.alloc (.cells #[.int .i64 n] 3)).alloc (.cells #[.int .i64 m] 3)).alloc (.cells (zer (n + m + 3)) 3)).alloc (.cells (zer (n + m + 3)) 3)).drew) := by
    intro h2 h3 e a hS
    have hM := mem_start ba bb pl n m h2 h3 A B L w a1 a2 hpl ra rb rl e
    refine tail34 (c := ⟨ba, bb, pl, w.heap.size, w.heap.size + 1, h2, h3, n, m, A, B, w⟩) ⟨hn, hm, n1, m1, a1, a2, hpl, ?_, ?_, ?_, ?_, ?_, ?_, ?_, ?_, ?_⟩ hsafe l1 l2 hS hM ?_
    · show pl < w.heap.size + 1; omega
    · show pl < h2; omega
    · show pl < h3; omega
    · show w.heap.size ≠ w.heap.size + 1; omega
    · show w.heap.size ≠ h2; omega
    · show w.heap.size ≠ h3; omega
    · show w.heap.size + 1 ≠ h2; omega
    · show w.heap.size + 1 ≠ h3; omega
    · show h2 ≠ h3; omega
    · rintro a' w' x y u v b L' h ⟨F, G, hm⟩ ho
      exact ret34 h ⟨x, y, u, v, b, L', rfl, ho, hm.rl, hm.bel⟩
  have k1 := key (w.heap.size + 2) (w.heap.size + 3) (.inl ⟨rfl, rfl⟩)
  have k2 := key (w.heap.size + 3) (w.heap.size + 2) (.inr ⟨rfl, rfl⟩)
  clear key ra rb rl hsafe
  go_enter Try.func34, Try.ntmps34
  go_wp2_with fail
  go_region
  · simp only [Exit.then]
    go_step
    first
    | exact k1.out _ ⟨⟨rfl, rfl⟩, rfl, rfl, rfl, rfl, rfl, rfl, rfl, rfl, rfl⟩
    | exact k2.out _ ⟨⟨rfl, rfl⟩, rfl, rfl, rfl, rfl, rfl, rfl, rfl, rfl, rfl⟩
  · simp only [Exit.then]
    go_step
    first
    | exact k2.out _ ⟨⟨rfl, rfl⟩, rfl, rfl, rfl, rfl, rfl, rfl, rfl, rfl, rfl⟩
    | exact k1.out _ ⟨⟨rfl, rfl⟩, rfl, rfl, rfl, rfl, rfl, rfl, rfl, rfl, rfl⟩

set_option maxHeartbeats 1000000 in
theorem zzms_any (ba bb pl n m : Nat) (A B : Int → Int) (L : Int) (w : World) (hn : n ≤ 512) (hm : m ≤ 512) (n1 : 1 ≤ n) (m1 : 1 ≤ m) (a1 : ba < pl) (a2 : bb < pl) (hpl : pl < w.heap.size)
    (ra : Row w ba 3 n (lineV A)) (rb : Row w bb 3 m (lineV B)) (rl : Row w pl 3 1 (oneV L)) (l1 : -1073741824 ≤ L) (l2 : L ≤ 1073741824) (hsafe : (⟨A, B, n, m⟩ : Ms.Pm).AllSafe) :
    Calls Try.prog 26 #[.slice (some ⟨ba, 0, none⟩) n n, .slice (some ⟨bb, 0, none⟩) m m, .pointer (some ⟨pl, 0, none⟩)] w fun e w' =>
      ∃ x y u v b L', e = .returned (five x y u v b) ∧ (⟨A, B, n, m⟩ : Ms.Pm).Out L x y u v b L' ∧ Row w' pl 3 1 (oneV L') ∧ Below pl w w' := by
  go_enter Try.func26, Try.ntmps26
  go_wp2_with fail
  refine (ms_any ba bb pl n m A B L w hn hm n1 m1 a1 a2 hpl ra rb rl l1 l2 hsafe).mono ?_
  rintro e w' ⟨x, y, u, v, b, L', rfl, ho, hr, hb⟩
  unfold five
  go_wp2_with fail
  refine bodyPost_ret (results5 rfl _ _ _) rfl ?_
  exact ⟨x, y, u, v, b, L', rfl, ho, hr, hb⟩

end Go.Proofs.Qxb6601047a
