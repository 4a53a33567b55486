/-
  FnHoldingCountsAndMonotone: the walk.
-/
import Derived.Test.Qxb6603538aHoldNewest
namespace Go.Proofs.Qxb6603538a
open Go.RowKit

theorem cnt_mono (x : Nat → Int) (s t : Int) (h : s ≤ t) (k : Nat) : cnt x s k ≤ cnt x t k := by
  induction k with
  | zero => exact Nat.le_refl _
  | succ k ih =>
    by_cases a : x k ≤ s
    · rw [cnt_hit x s k a, cnt_hit x t k (by omega)]; omega
    · rw [cnt_miss x s k a]
      by_cases b : x k ≤ t
      · rw [cnt_hit x t k b]; omega
      · rw [cnt_miss x t k b]; exact ih

theorem cnt_all (x : Nat → Int) (t : Int) (k : Nat) (h : ∀ j, j < k → x j ≤ t) : cnt x t k = k := by
  induction k with
  | zero => rfl
  | succ k ih => rw [cnt_hit x t k (h k (by omega)), ih (fun j hj => h j (by omega))]

theorem cnt_more (x : Nat → Int) (t : Int) (m d : Nat) (h : ∀ j, m ≤ j → j < m + d → t < x j) : cnt x t (m + d) = cnt x t m := by
  induction d with
  | zero => rfl
  | succ d ih =>
    rw [show m + (d + 1) = (m + d) + 1 by omega, cnt_miss x t (m + d) (by have := h (m + d) (by omega) (by omega); omega)]
    exact ih (fun j h1 h2 => h j h1 (by omega))

theorem parts_cnt (x : Nat → Int) (t : Int) (n m : Nat) (hp : Parts (fun i => decide (t < x i)) n m) : cnt x t n = m := by
  obtain ⟨h1, h2, h3⟩ := hp
  have e := cnt_more x t m (n - m) (fun j a b => of_decide_eq_true (h3 j a (by omega)))
  rw [show m + (n - m) = n by omega] at e
  rw [e]
  exact cnt_all x t m (fun j hj => by have := of_decide_eq_false (h2 j hj); omega)

/-- ZZholdingOver: one less than the count. -/
theorem over_count (b off n c : Nat) (x : Nat → Int) (t : Int) (w : World) (hn : n ≤ 131072) (hl : Lies w b off n x) (hd : Nondec x n) :
    Calls Try.prog 7 #[.slice (some ⟨b, off, none⟩) n c, .int .i64 t] w fun e w' => e = .returned (.int .i64 ((cnt x t n : Int) - 1)) ∧ Below w.heap.size w w' :=
  (over_some b off n c x t w hn hl hd).mono fun e w' ⟨m, he, hp, hb⟩ => ⟨by rw [parts_cnt x t n m hp]; exact he, hb⟩

theorem lies_below {w w' : World} {b off n : Nat} {x : Nat → Int} (h : Lies w b off n x) (hb : Below w.heap.size w w') : Lies w' b off n x := fun i hi => cell_later hb (h i hi)

set_option maxHeartbeats 1000000 in
theorem counts_some (b off n c : Nat) (x : Nat → Int) (s t : Int) (w : World) (hn : n ≤ 131072) (hb : b < w.heap.size) (hl : Lies w b off n x) :
    Calls Try.prog 4 #[.slice (some ⟨b, off, none⟩) n c, .int .i64 s, .int .i64 t] w fun e w' => e = .returned (.bool true) ∧ Below w.heap.size w w' := by
  have HL : Hid _ := hl
  clear hl
  have hnn := fun wx => run_neq_slice_nil_any (P := Try.prog) wx 22 2 (some ⟨b, off, none⟩) n c 0 0 Try.underlying22
  obtain ⟨i0, hi, hz0, hz1, hz2⟩ := info_parts Try.info2
  go_enter Try.func4, Try.ntmps4
  go_wp2_with (first | (go_at_call 6; refine (nondec_any b off n c x _ hn HL.out).mono ?_; rintro e w' ⟨⟨r, rfl, hr⟩, q, rfl⟩) | (at_make; refine wpList_make_full _ rfl _ _ 22 rfl w.heap.size 2 i0 (.int .i64 0) 1 Try.underlying22 hi hz0 hz1 _ _ _ _ n rfl rfl rfl rfl (by rw [hz2]; omega) (by unfold maxLen; omega) (Nat.le_refl _) ?_; intro w1 how hgr) | go_in)
  · go_ret
    exact ⟨rfl, below_drewN (Below.refl _ _) q⟩
  · have hr1 : r = true := by
      cases r with
      | true => rfl
      | false => exact absurd (by assumption : (!false) = false) (by decide)
    have HD : Hid (Nondec x n) := hr hr1
    have C0 : Hid (Copied w1 w.heap.size n 0 x) := ⟨_, how, fun j hj => absurd hj (Nat.not_lt_zero _)⟩
    have B0 : Hid (Below w.heap.size w w1) := (below_drewN (Below.refl _ w) q).grown hgr (Nat.le_refl _) (fun k hk => by cases hk)
    clear how hgr hr hr1
    go_loopw [8] (fun i wr => ∃ k : Nat, i = .int .i64 k ∧ k ≤ n ∧ Hid (Copied wr w.heap.size n k x) ∧ Hid (Below w.heap.size w wr)) (fun i _ => n - (intOf i).toNat)
    case atStart => exact ⟨0, rfl, Nat.zero_le _, C0, B0⟩
    case round =>
      obtain ⟨k, rfl, hk, HC, HB⟩ := hrel
      clear C0 B0
      by_cases hlt : k < n
      · have h1 : wr.cell? ⟨b, off + k, none⟩ = some (.int .i64 (x k)) := (HB.out.cell (by exact hb)).trans (HL.out k hlt)
        obtain ⟨old, ho⟩ := HC.out.cell k hlt
        have hf := HC.out.free k
        have b1 : (k : Int) < (n : Int) := by omega
        go_wp2
        go_roundw
        case rel => exact ⟨k + 1, by go_num, by omega, HC.out.next hlt, HB.out.setCell (Nat.le_refl _) _⟩
        case measure => simp [intOf]; omega
      · obtain rfl : k = n := by omega
        have HLB : Hid (Lies wr w.heap.size 0 k x) := HC.out.lies
        clear HC HL
        have hcs := cnt_le x s k
        have hct := cnt_le x t k
        by_cases hst : t < s
        · have hmn : cnt x t k ≤ cnt x s k := cnt_mono x t s (by omega) k
          go_wp2_with fail
          refine (over_count w.heap.size 0 k k x t wr hn HLB.out HD.out).mono ?_
          rintro e w2 ⟨rfl, hb2⟩
          have HB2 : Hid (Below wr.heap.size wr w2) := hb2
          clear hb2
          have HL2 : Hid (Lies w2 w.heap.size 0 k x) := lies_below HLB.out HB2.out
          go_wp2_with fail
          refine (over_count w.heap.size 0 k k x s w2 hn HL2.out HD.out).mono ?_
          rintro e w3 ⟨rfl, hb3⟩
          have HB3 : Hid (Below w2.heap.size w2 w3) := hb3
          clear hb3
          have HL3 : Hid (Lies w3 w.heap.size 0 k x) := lies_below HL2.out HB3.out
          go_wp2_with fail
          refine (count_any w.heap.size 0 k k x t w3 hn HL3.out).mono ?_
          rintro e w' ⟨rfl, rfl⟩
          go_wp2_with fail
          refine (count_any w.heap.size 0 k k x s w3 hn HL3.out).mono ?_
          rintro e w' ⟨rfl, rfl⟩
          go_wp2
          go_ret
          exact ⟨ret_bool (by simp), HB.out.trans ((HB2.out.mono HB.out.size).trans (HB3.out.mono (Nat.le_trans HB.out.size HB2.out.size)))⟩
        · have hmn : cnt x s k ≤ cnt x t k := cnt_mono x s t (by omega) k
          go_wp2_with fail
          refine (over_count w.heap.size 0 k k x s wr hn HLB.out HD.out).mono ?_
          rintro e w2 ⟨rfl, hb2⟩
          have HB2 : Hid (Below wr.heap.size wr w2) := hb2
          clear hb2
          have HL2 : Hid (Lies w2 w.heap.size 0 k x) := lies_below HLB.out HB2.out
          go_wp2_with fail
          refine (over_count w.heap.size 0 k k x t w2 hn HL2.out HD.out).mono ?_
          rintro e w3 ⟨rfl, hb3⟩
          have HB3 : Hid (Below w2.heap.size w2 w3) := hb3
          clear hb3
          have HL3 : Hid (Lies w3 w.heap.size 0 k x) := lies_below HL2.out HB3.out
          go_wp2_with fail
          refine (count_any w.heap.size 0 k k x s w3 hn HL3.out).mono ?_
          rintro e w' ⟨rfl, rfl⟩
          go_wp2_with fail
          refine (count_any w.heap.size 0 k k x t w3 hn HL3.out).mono ?_
          rintro e w' ⟨rfl, rfl⟩
          go_wp2
          go_ret
          exact ⟨ret_bool (by simp), HB.out.trans ((HB2.out.mono HB.out.size).trans (HB3.out.mono (Nat.le_trans HB.out.size HB2.out.size)))⟩

set_option maxHeartbeats 1000000 in
/-- A nil slice. -/
theorem counts_nil (s t : Int) (w : World) :
    Calls Try.prog 4 #[.slice none 0 0, .int .i64 s, .int .i64 t] w fun e w' => e = .returned (.bool true) ∧ Below w.heap.size w w' := by
  have hnn := fun wx => run_neq_slice_nil_any (P := Try.prog) wx 22 2 none 0 0 0 0 Try.underlying22
  by_cases hst : t < s
  all_goals
    go_enter Try.func4, Try.ntmps4
    go_wp2_with (first | (go_at_call 6; refine (nondec_none none 0 _).mono ?_; rintro e w' ⟨rfl, rfl⟩) | (go_at_call 8; go_in))
    refine (over_none none 0 _ w).mono ?_
    rintro e w2 ⟨rfl, hb2⟩
    have HB2 : Hid (Below w.heap.size w w2) := hb2
    clear hb2
    go_wp2_with fail
    refine (over_none none 0 _ w2).mono ?_
    rintro e w3 ⟨rfl, hb3⟩
    have HB3 : Hid (Below w2.heap.size w2 w3) := hb3
    clear hb3
    go_wp2_with (go_at_call 9; refine (count_none none 0 _ _).mono ?_; rintro e w' ⟨rfl, rfl⟩)
    go_ret
    exact ⟨rfl, HB2.out.trans (HB3.out.mono HB2.out.size)⟩

set_option maxHeartbeats 1000000 in
/-- An empty slice that is not nil: of its address nothing is known. -/
theorem counts_empty (a : Addr) (c : Nat) (s t : Int) (w : World) :
    Calls Try.prog 4 #[.slice (some a) 0 c, .int .i64 s, .int .i64 t] w fun e w' => e = .returned (.bool true) ∧ Below w.heap.size w w' := by
  have hnn := fun wx => run_neq_slice_nil_any (P := Try.prog) wx 22 2 (some a) 0 c 0 0 Try.underlying22
  obtain ⟨i0, hi, hz0, hz1, hz2⟩ := info_parts Try.info2
  by_cases hst : t < s
  all_goals
    go_enter Try.func4, Try.ntmps4
    go_wp2_with (first | (go_at_call 6; refine (nondec_none (some a) c _).mono ?_; rintro e w' ⟨rfl, rfl⟩) | (at_make; refine wpList_make_full _ rfl _ _ 22 rfl w.heap.size 2 i0 (.int .i64 0) 1 Try.underlying22 hi hz0 hz1 _ _ _ _ 0 rfl rfl rfl rfl (by omega) (by unfold maxLen; omega) (Nat.le_refl _) ?_; intro w1 how hgr) | go_in)
    have HB : Hid (Below w.heap.size w w1) := (Below.refl _ w).grown hgr (Nat.le_refl _) (fun k hk => by cases hk)
    clear how hgr
    refine wp_loop_rounds 1 ?_
    rw [rounds_succ]
    go_wp2_with fail
    refine (over_none (some ⟨w.heap.size, 0, none⟩) 0 _ w1).mono ?_
    rintro e w2 ⟨rfl, hb2⟩
    have HB2 : Hid (Below w1.heap.size w1 w2) := hb2
    clear hb2
    go_wp2_with fail
    refine (over_none (some ⟨w.heap.size, 0, none⟩) 0 _ w2).mono ?_
    rintro e w3 ⟨rfl, hb3⟩
    have HB3 : Hid (Below w2.heap.size w2 w3) := hb3
    clear hb3
    go_wp2_with (go_at_call 9; refine (count_none (some ⟨w.heap.size, 0, none⟩) 0 _ _).mono ?_; rintro e w' ⟨rfl, rfl⟩)
    go_ret
    exact ⟨rfl, HB.out.trans ((HB2.out.mono HB.out.size).trans (HB3.out.mono (Nat.le_trans HB.out.size HB2.out.size)))⟩

set_option maxHeartbeats 1000000 in
/-- A slice that is too long: the law's own guards. -/
theorem counts_long (a : Option Addr) (n c : Nat) (s t : Int) (w : World) (hn : 131072 < n) (hm : n ≤ maxLen) :
    Calls Try.prog 4 #[.slice a n c, .int .i64 s, .int .i64 t] w fun e w' => e = .returned (.bool true) ∧ Below w.heap.size w w' := by
  unfold maxLen at hm
  by_cases hb : n ≤ 1048576
  · go_enter Try.func4, Try.ntmps4
    go_wp2
    go_ret
    exact ⟨rfl, Below.refl _ _⟩
  · go_enter Try.func4, Try.ntmps4
    go_wp2
    go_ret
    exact ⟨rfl, Below.refl _ _⟩

end Go.Proofs.Qxb6603538a
