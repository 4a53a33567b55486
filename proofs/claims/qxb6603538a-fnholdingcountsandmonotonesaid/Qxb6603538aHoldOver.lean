/-
  ZZholdingOver: one less than how many numbers are at or before t, over numbers that never go back.
-/
import Derived.Test.Qxb6603538aHoldReads
namespace Go.Proofs.Qxb6603538a
open Go.RowKit

theorem nondec_le (x : Nat → Int) (n : Nat) (h : Nondec x n) : ∀ d i, i + d < n → x i ≤ x (i + d) := by
  intro d
  induction d with
  | zero => intro i _; exact Int.le_refl _
  | succ d ih => intro i hi; have h1 := ih i (by omega); have h2 := h (i + d) (by omega); rw [show i + (d + 1) = i + d + 1 by omega]; omega

theorem later_mono (x : Nat → Int) (n : Nat) (t : Int) (h : Nondec x n) (i j : Nat) (hij : i ≤ j) (hj : j < n) (hp : decide (t < x i) = true) : decide (t < x j) = true := by
  have h1 := nondec_le x n h (j - i) i (by omega)
  rw [show i + (j - i) = j by omega] at h1
  have h2 : t < x i := of_decide_eq_true hp
  exact decide_eq_true (by omega)

/-- What was laid below stays, behind two boxes and draws. -/
theorem lies_boxes {w : World} {b off n : Nat} {x : Nat → Int} (h : Lies w b off n x) (o1 o2 : Obj) : Lies ((w.alloc o1).alloc o2) b off n x := fun i hi =>
  cell_later (((Below.refl _ w).alloc (Nat.le_refl _) o1).alloc (by simp) o2) (h i hi)

set_option maxHeartbeats 1000000 in
theorem over_some (b off n c : Nat) (x : Nat → Int) (t : Int) (w : World) (hn : n ≤ 131072) (hl : Lies w b off n x) (hd : Nondec x n) :
    Calls Try.prog 7 #[.slice (some ⟨b, off, none⟩) n c, .int .i64 t] w
      fun e w' => ∃ m : Nat, e = .returned (.int .i64 ((m : Int) - 1)) ∧ Parts (fun i => decide (t < x i)) n m ∧ Below w.heap.size w w' := by
  have L2 := lies_boxes hl (.cells #[.slice (some ⟨b, off, none⟩) n c] 22) (.cells #[.int .i64 t] 2)
  have hs := search_any w.heap.size (w.heap.size + 1) n (fun i => decide (t < x i)) ((w.alloc (.cells #[.slice (some ⟨b, off, none⟩) n c] 22)).alloc (.cells #[.int .i64 t] 2)) hn
    (fun q i hi => closure_any w.heap.size (w.heap.size + 1) b off n c i (x i) t _ hi
      (by show ((w.alloc _).alloc _).cell? _ = _; simp)
      (by show ((w.alloc _).alloc _).cell? _ = _; simp)
      (L2 i hi))
    (later_mono x n t hd)
  clear hl hd L2
  go_enter Try.func7, Try.ntmps7
  go_wp2_with (first | (go_at_call 12; refine hs.mono ?_; rintro e w' ⟨m, rfl, hp, q, rfl⟩; have hmn : m ≤ n := hp.1) | go_in)
  go_ret
  exact ⟨m, rfl, hp, below_drewN (((Below.refl _ w).alloc (Nat.le_refl _) _).alloc (by simp) _) q⟩

set_option maxHeartbeats 1000000 in
/-- No element at all, a nil slice too: -1. -/
theorem over_none (a : Option Addr) (c : Nat) (t : Int) (w : World) :
    Calls Try.prog 7 #[.slice a 0 c, .int .i64 t] w fun e w' => e = .returned (.int .i64 (-1)) ∧ Below w.heap.size w w' := by
  have hs := search_any w.heap.size (w.heap.size + 1) 0 (fun _ => true) ((w.alloc (.cells #[.slice a 0 c] 22)).alloc (.cells #[.int .i64 t] 2)) (by omega)
    (fun q i hi => absurd hi (Nat.not_lt_zero _)) (fun _ _ _ hj => absurd hj (Nat.not_lt_zero _))
  go_enter Try.func7, Try.ntmps7
  go_wp2_with (first | (go_at_call 12; refine hs.mono ?_; rintro e w' ⟨m, rfl, hp, q, rfl⟩; have hmn : m ≤ 0 := hp.1) | go_in)
  go_ret
  exact ⟨ret_int (by omega), below_drewN (((Below.refl _ w).alloc (Nat.le_refl _) _).alloc (by simp) _) q⟩

end Go.Proofs.Qxb6603538a
