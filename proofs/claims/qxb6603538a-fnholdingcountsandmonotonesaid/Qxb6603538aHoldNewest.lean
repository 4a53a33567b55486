/-
  FnHoldingNewestAtOrBefore: the walk.
-/
import Derived.Test.Qxb6603538aHoldOver
namespace Go.Proofs.Qxb6603538a
open Go.RowKit

theorem Try.info2 : (Try.prog.info? 2).map (fun i => (i.zero, i.size, i.bytes)) = some (some (.int .i64 0), 1, 8) := by kernel_rfl

/-- The first k numbers have been copied into the new row at block B. -/
def Copied (w : World) (B n k : Nat) (x : Nat → Int) : Prop :=
  ∃ ys : List Value, w.ownsRow B 2 1 (.slice (some ⟨B, 0, none⟩) n n) n ys ∧ ∀ j, j < k → ys[j]? = some (.int .i64 (x j))

theorem Copied.cell {w : World} {B n k : Nat} {x : Nat → Int} (h : Copied w B n k x) (j : Nat) (hj : j < n) : ∃ v, w.cell? ⟨B, j, none⟩ = some v := by
  obtain ⟨ys, ho, _⟩ := h
  rw [ho.cellAt j (by omega)]
  have := ho.1
  exact ⟨_, List.getElem?_eq_getElem (by omega)⟩

theorem Copied.free {w : World} {B n k : Nat} {x : Nat → Int} (h : Copied w B n k x) (j : Nat) : w.frozen? ⟨B, j, none⟩ = false := by
  obtain ⟨ys, ho, _⟩ := h
  exact ho.frozenAt j

theorem Copied.next {w : World} {B n k : Nat} {x : Nat → Int} (h : Copied w B n k x) (hk : k < n) : Copied (w.setCell ⟨B, k, none⟩ (.int .i64 (x k))) B n (k + 1) x := by
  obtain ⟨ys, ho, hy⟩ := h
  refine ⟨ys.set k (.int .i64 (x k)), (ho.stored k _).1, fun j hj => ?_⟩
  have hl := ho.1
  by_cases e : j = k
  · subst e
    rw [List.getElem?_set_self (by omega)]
  · rw [List.getElem?_set_ne (by omega)]
    exact hy j (by omega)

theorem Copied.lies {w : World} {B n : Nat} {x : Nat → Int} (h : Copied w B n n x) : Lies w B 0 n x := fun i hi => by
  obtain ⟨ys, ho, hy⟩ := h
  rw [Nat.zero_add, ho.cellAt i (by omega)]
  exact hy i hi

/-- The scan from the end: every number behind the place is later than t. -/
def Scan (x : Nat → Int) (t : Int) (n : Nat) (s : Value) : Prop :=
  (∃ m : Nat, s = .int .i64 m ∧ m < n ∧ ∀ j, m < j → j < n → t < x j) ∨ (s = .int .i64 (-1) ∧ ∀ j, j < n → t < x j)

theorem scan_start (x : Nat → Int) (t : Int) (n : Nat) : Scan x t n (.int .i64 ((n : Int) - 1)) := by
  cases n with
  | zero => exact .inr ⟨rfl, fun j hj => absurd hj (Nat.not_lt_zero _)⟩
  | succ n => exact .inl ⟨n, by rw [show (((n + 1 : Nat) : Int) - 1) = (n : Int) by omega], by omega, fun j h1 h2 => by omega⟩

theorem scan_next (x : Nat → Int) (t : Int) (n m : Nat) (h : ∀ j, m < j → j < n → t < x j) (hm : m < n) (hx : t < x m) : Scan x t n (.int .i64 ((m : Int) - 1)) := by
  cases m with
  | zero =>
    refine .inr ⟨rfl, fun j hj => ?_⟩
    by_cases e : j = 0
    · subst e; exact hx
    · exact h j (by omega) hj
  | succ m =>
    refine .inl ⟨m, by rw [show (((m + 1 : Nat) : Int) - 1) = (m : Int) by omega], by omega, fun j h1 h2 => ?_⟩
    by_cases e : j = m + 1
    · subst e; exact hx
    · exact h j (by omega) h2

/-- The search and the scan meet. -/
theorem meet_some (x : Nat → Int) (t : Int) (n m m' : Nat) (hp : Parts (fun i => decide (t < x i)) n m') (h : ∀ j, m < j → j < n → t < x j) (hm : m < n) (hx : ¬ t < x m) : (((m' : Int) - 1 == (m : Int)) : Bool) = true := by
  obtain ⟨h1, h2, h3⟩ := hp
  have a : m < m' := by
    by_cases e : m < m'
    · exact e
    · exact absurd (of_decide_eq_true (h3 m (by omega) hm)) hx
  have b : m' ≤ m + 1 := by
    by_cases e : m' ≤ m + 1
    · exact e
    · exact absurd (h (m + 1) (by omega) (by omega)) (of_decide_eq_false (h2 (m + 1) (by omega)))
  simp
  omega

theorem meet_none (x : Nat → Int) (t : Int) (n m' : Nat) (hp : Parts (fun i => decide (t < x i)) n m') (h : ∀ j, j < n → t < x j) : (((m' : Int) - 1 == (-1 : Int)) : Bool) = true := by
  obtain ⟨h1, h2, h3⟩ := hp
  have a : m' = 0 := by
    by_cases e : m' = 0
    · exact e
    · exact absurd (h 0 (by omega)) (of_decide_eq_false (h2 0 (by omega)))
  subst a
  rfl

set_option maxHeartbeats 1000000 in
theorem newest_some (b off n c : Nat) (x : Nat → Int) (t : Int) (w : World) (hn : n ≤ 131072) (hb : b < w.heap.size) (hl : Lies w b off n x) :
    Calls Try.prog 3 #[.slice (some ⟨b, off, none⟩) n c, .int .i64 t] w fun e w' => e = .returned (.bool true) ∧ Below w.heap.size w w' := by
  have HL : Hid _ := hl
  clear hl
  have hnn := fun wx => run_neq_slice_nil_any (P := Try.prog) wx 22 2 (some ⟨b, off, none⟩) n c 0 0 Try.underlying22
  obtain ⟨i0, hi, hz0, hz1, hz2⟩ := info_parts Try.info2
  go_enter Try.func3, Try.ntmps3
  go_wp2_with (first | (go_at_call 6; refine (nondec_any b off n c x _ hn HL.out).mono ?_; rintro e w' ⟨⟨r, rfl, hr⟩, q, rfl⟩) | (at_make; refine wpList_make_full _ rfl _ _ 22 rfl w.heap.size 2 i0 (.int .i64 0) 1 Try.underlying22 hi hz0 hz1 _ _ _ _ n rfl rfl rfl rfl (by rw [hz2]; omega) (by unfold maxLen; omega) (Nat.le_refl _) ?_; intro w1 how hgr) | go_in)
  · go_ret
    exact ⟨rfl, below_drewN (Below.refl _ _) q⟩
  · have hr1 : r = true := by
      cases r with
      | true => rfl
      | false => exact absurd (by assumption : (!false) = false) (by decide)
    have HD : Hid (Nondec x n) := hr hr1
    have C0 : Hid (Copied w1 w.heap.size n 0 x) := ⟨_, how, fun j hj => absurd hj (Nat.not_lt_zero _)⟩
    have B0 : Hid (Below w.heap.size w w1) := (below_drewN (Below.refl _ w) q).grown hgr (Nat.le_refl _) (fun k hk => by cases hk)
    clear how hgr hr hr1
    go_loopw [6] (fun i wr => ∃ k : Nat, i = .int .i64 k ∧ k ≤ n ∧ Hid (Copied wr w.heap.size n k x) ∧ Hid (Below w.heap.size w wr)) (fun i _ => n - (intOf i).toNat)
    case atStart => exact ⟨0, rfl, Nat.zero_le _, C0, B0⟩
    case round =>
      obtain ⟨k, rfl, hk, HC, HB⟩ := hrel
      clear C0 B0
      by_cases hlt : k < n
      · have h1 : wr.cell? ⟨b, off + k, none⟩ = some (.int .i64 (x k)) := (HB.out.cell (by exact hb)).trans (HL.out k hlt)
        obtain ⟨old, ho⟩ := HC.out.cell k hlt
        have hf := HC.out.free k
        have b1 : (k : Int) < (n : Int) := by omega
        go_wp2
        go_roundw
        case rel => exact ⟨k + 1, by go_num, by omega, HC.out.next hlt, HB.out.setCell (Nat.le_refl _) _⟩
        case measure => simp [intOf]; omega
      · obtain rfl : k = n := by omega
        have LB := HC.out.lies
        have HLB : Hid (Lies wr w.heap.size 0 k x) := LB
        clear LB HC HL
        go_wp2
        go_loop [7] (fun s => Hid (Scan x t k s)) (fun s => (intOf s + 1).toNat)
        case atStart => exact scan_start x t k
        case round =>
          have hov := over_some w.heap.size 0 k k x t wr hn HLB.out HD.out
          clear HD
          rcases hrel.out with ⟨m, rfl, hm, hj⟩ | ⟨rfl, hj⟩
          · have HJ : Hid _ := hj
            clear hj hrel
            have b1 : (m : Int) < (k : Int) := by omega
            have h1 : wr.cell? ⟨w.heap.size, m, none⟩ = some (.int .i64 (x m)) := by have := HLB.out m hm; rwa [Nat.zero_add] at this
            by_cases hx : t < x m
            · clear hov
              go_wp2
              go_round
              case rel => exact scan_next x t k m HJ.out hm hx
              case measure => simp [intOf]
            · go_wp2_with (go_at_call 7; refine hov.mono ?_; rintro e w' ⟨m', rfl, hp, hbel⟩)
              go_ret
              exact ⟨ret_bool (meet_some x t k m m' hp HJ.out hm (by omega)), HB.out.trans (hbel.mono HB.out.size)⟩
          · have HJ : Hid _ := hj
            clear hj hrel
            go_wp2_with (go_at_call 7; refine hov.mono ?_; rintro e w' ⟨m', rfl, hp, hbel⟩)
            go_ret
            exact ⟨ret_bool (meet_none x t k m' hp HJ.out), HB.out.trans (hbel.mono HB.out.size)⟩

set_option maxHeartbeats 1000000 in
/-- A nil slice. -/
theorem newest_nil (t : Int) (w : World) :
    Calls Try.prog 3 #[.slice none 0 0, .int .i64 t] w fun e w' => e = .returned (.bool true) ∧ Below w.heap.size w w' := by
  have hnn := fun wx => run_neq_slice_nil_any (P := Try.prog) wx 22 2 none 0 0 0 0 Try.underlying22
  go_enter Try.func3, Try.ntmps3
  go_wp2_with (first | (go_at_call 6; refine (nondec_none none 0 _).mono ?_; rintro e w' ⟨rfl, rfl⟩) | go_in)
  refine wp_loop_rounds 1 ?_
  rw [rounds_succ]
  go_wp2_with (go_at_call 7; refine (over_none none 0 t _).mono ?_; rintro e w' ⟨rfl, hbel⟩)
  go_ret
  exact ⟨rfl, hbel⟩

set_option maxHeartbeats 1000000 in
/-- An empty slice that is not nil: of its address nothing is known. -/
theorem newest_empty (a : Addr) (c : Nat) (t : Int) (w : World) :
    Calls Try.prog 3 #[.slice (some a) 0 c, .int .i64 t] w fun e w' => e = .returned (.bool true) ∧ Below w.heap.size w w' := by
  have hnn := fun wx => run_neq_slice_nil_any (P := Try.prog) wx 22 2 (some a) 0 c 0 0 Try.underlying22
  obtain ⟨i0, hi, hz0, hz1, hz2⟩ := info_parts Try.info2
  go_enter Try.func3, Try.ntmps3
  go_wp2_with (first | (go_at_call 6; refine (nondec_none (some a) c _).mono ?_; rintro e w' ⟨rfl, rfl⟩) | (at_make; refine wpList_make_full _ rfl _ _ 22 rfl w.heap.size 2 i0 (.int .i64 0) 1 Try.underlying22 hi hz0 hz1 _ _ _ _ 0 rfl rfl rfl rfl (by omega) (by unfold maxLen; omega) (Nat.le_refl _) ?_; intro w1 how hgr) | go_in)
  have B0 : Below w.heap.size w w1 := (Below.refl _ w).grown hgr (Nat.le_refl _) (fun k hk => by cases hk)
  have HB : Hid (Below w.heap.size w w1) := B0
  clear how hgr B0
  refine wp_loop_rounds 1 ?_
  rw [rounds_succ]
  go_wp2
  refine wp_loop_rounds 1 ?_
  rw [rounds_succ]
  go_wp2_with (go_at_call 7; refine (over_none (some ⟨w.heap.size, 0, none⟩) 0 t _).mono ?_; rintro e w' ⟨rfl, hbel⟩)
  go_ret
  exact ⟨rfl, HB.out.trans (hbel.mono HB.out.size)⟩

set_option maxHeartbeats 1000000 in
/-- A slice that is too long: the law's own guards. -/
theorem newest_long (a : Option Addr) (n c : Nat) (t : Int) (w : World) (hn : 131072 < n) (hm : n ≤ maxLen) :
    Calls Try.prog 3 #[.slice a n c, .int .i64 t] w fun e w' => e = .returned (.bool true) ∧ Below w.heap.size w w' := by
  unfold maxLen at hm
  by_cases hb : n ≤ 1048576
  · go_enter Try.func3, Try.ntmps3
    go_wp2
    go_ret
    exact ⟨rfl, Below.refl _ _⟩
  · go_enter Try.func3, Try.ntmps3
    go_wp2
    go_ret
    exact ⟨rfl, Below.refl _ _⟩

end Go.Proofs.Qxb6603538a
