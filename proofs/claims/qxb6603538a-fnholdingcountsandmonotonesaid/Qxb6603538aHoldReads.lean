/-
  The functions on the road that only read: the closure of ZZholdingOver, sort.Search over it, zzNondecreasing, zzCountAtOrBefore, the two zzBytes.
-/
import Derived.Test.Qxb6603538aProg
import Derived.WalkKit
import Derived.WalkSpells
import Derived.WalkLawsBesides
import Derived.RegionTactic
import Derived.Deep.QuietTactic
import Derived.BigQuiet
namespace Go.Proofs.Qxb6603538a
open Go.RowKit

/-- The row of numbers lies at b, off. -/
def Lies (w : World) (b off n : Nat) (x : Nat → Int) : Prop := ∀ i, i < n → w.cell? ⟨b, off + i, none⟩ = some (.int .i64 (x i))

theorem ret_bool {a b : Bool} (h : a = b) : Ending.returned (.bool a) = .returned (.bool b) := by rw [h]
theorem ret_int {k : IntKind} {a b : Int} (h : a = b) : Ending.returned (.int k a) = .returned (.int k b) := by rw [h]

set_option maxHeartbeats 400000 in
/-- 'func(k int) bool { return times[k] > t }' -/
theorem closure_any (bt bx b off n c i : Nat) (x t : Int) (w : World) (hi : i < n)
    (ht : w.cell? ⟨bt, 0, none⟩ = some (.slice (some ⟨b, off, none⟩) n c)) (hx : w.cell? ⟨bx, 0, none⟩ = some (.int .i64 t)) (hc : w.cell? ⟨b, off + i, none⟩ = some (.int .i64 x)) :
    Calls Try.prog 11 #[.int .i64 i, .pointer (some ⟨bt, 0, none⟩), .pointer (some ⟨bx, 0, none⟩)] w fun e w' => e = .returned (.bool (decide (t < x))) ∧ ∃ q, w' = w.drewN q := by
  have hiz : (i : Int) < (n : Int) := by omega
  go_enter Try.func11, Try.ntmps11
  go_wp2
  go_quiet (fail)
  go_wp2
  go_ret
  exact ⟨rfl, nq, rfl⟩

/-- What sort.Search gives: how many places ahead say no, behind which all say yes. -/
def Parts (p : Nat → Bool) (n m : Nat) : Prop := m ≤ n ∧ (∀ j, j < m → p j = false) ∧ (∀ j, m ≤ j → j < n → p j = true)

set_option maxHeartbeats 1000000 in
/-- sort.Search over the closure. 'hf': what the closure says at each place, in whatever world the search comes to. -/
theorem search_any (bt bx n : Nat) (p : Nat → Bool) (w : World) (hn : n ≤ 131072)
    (hf : ∀ q i, i < n → Calls Try.prog 11 #[.int .i64 i, .pointer (some ⟨bt, 0, none⟩), .pointer (some ⟨bx, 0, none⟩)] (w.drewN q) fun e w' => e = .returned (.bool (p i)) ∧ ∃ q', w' = (w.drewN q).drewN q')
    (hmono : ∀ i j, i ≤ j → j < n → p i = true → p j = true) :
    Calls Try.prog 12 #[.int .i64 n, .func (.func 11) #[] #[.pointer (some ⟨bt, 0, none⟩), .pointer (some ⟨bx, 0, none⟩)]] w
      fun e w' => ∃ m : Nat, e = .returned (.int .i64 m) ∧ Parts p n m ∧ ∃ q, w' = w.drewN q := by
  have HF : Hid _ := hf
  have HM : Hid _ := hmono
  clear hf hmono
  go_enter Try.func12, Try.ntmps12
  go_wp2
  go_loopw [5, 6] (fun a b wr => ∃ lo hi q : Nat, a = .int .i64 lo ∧ b = .int .i64 hi ∧ lo ≤ hi ∧ hi ≤ n ∧ wr = w.drewN q ∧ Hid ((∀ j, j < lo → p j = false) ∧ (∀ j, hi ≤ j → j < n → p j = true)))
    (fun a b _ => (intOf b - intOf a).toNat)
  case atStart => exact ⟨0, n, 0, rfl, rfl, Nat.zero_le _, Nat.le_refl _, rfl, (⟨fun j hj => absurd hj (Nat.not_lt_zero _), fun j h1 h2 => by omega⟩ : (∀ j, j < 0 → p j = false) ∧ (∀ j, n ≤ j → j < n → p j = true))⟩
  case round =>
    obtain ⟨lo, hi, q, rfl, rfl, hlh, hin, rfl, I⟩ := hrel
    by_cases hlt : lo < hi
    · have hc := HF.out q ((lo + hi) / 2) (by omega)
      rw [show (((lo + hi) / 2 : Nat) : Int) = ((lo : Int) + (hi : Int)) / 2 by omega] at hc
      cases hp : p ((lo + hi) / 2) <;> rw [hp] at hc
      · have HP : Hid (p ((lo + hi) / 2) = false) := hp
        clear hp
        go_wp2_with (go_at_call 11; refine hc.mono ?_; rintro e w' ⟨rfl, nq, rfl⟩)
        go_roundw
        case rel =>
          have I2 : Hid ((∀ j, j < (lo + hi) / 2 + 1 → p j = false) ∧ (∀ j, hi ≤ j → j < n → p j = true)) := ⟨fun j hj => (by
            cases h : p j with
            | false => rfl
            | true => exact absurd (HM.out j ((lo + hi) / 2) (by omega) (by omega) h) (by rw [HP.out]; exact Bool.false_ne_true)), I.out.2⟩
          exact ⟨(lo + hi) / 2 + 1, hi, q + nq, by rw [show ((lo : Int) + (hi : Int)) / 2 + 1 = (((lo + hi) / 2 + 1 : Nat) : Int) by omega], rfl, by omega, hin, (by first | rfl | exact World.drewN_drewN _ _ _), I2⟩
        case measure => simp [intOf]; omega
      · have HP : Hid (p ((lo + hi) / 2) = true) := hp
        clear hp
        go_wp2_with (go_at_call 11; refine hc.mono ?_; rintro e w' ⟨rfl, nq, rfl⟩)
        go_roundw
        case rel =>
          have I2 : Hid ((∀ j, j < lo → p j = false) ∧ (∀ j, (lo + hi) / 2 ≤ j → j < n → p j = true)) := ⟨I.out.1, fun j h1 h2 => HM.out ((lo + hi) / 2) j h1 h2 HP.out⟩
          exact ⟨lo, (lo + hi) / 2, q + nq, rfl, by rw [show ((lo : Int) + (hi : Int)) / 2 = (((lo + hi) / 2 : Nat) : Int) by omega], by omega, by omega, (by first | rfl | exact World.drewN_drewN _ _ _), I2⟩
        case measure => simp [intOf]; omega
    · obtain rfl : hi = lo := by omega
      go_wp2
      go_ret
      exact ⟨hi, rfl, ⟨hin, I.out.1, I.out.2⟩, q, rfl⟩

/-- The numbers never go back. -/
def Nondec (x : Nat → Int) (n : Nat) : Prop := ∀ j, j + 1 < n → x j ≤ x (j + 1)

theorem nondec_succ (x : Nat → Int) (k : Nat) (h : Nondec x (k + 1)) (hk : x k ≤ x (k + 1)) : Nondec x (k + 1 + 1) := fun j hj => by
  by_cases e : j = k
  · subst e; exact hk
  · exact h j (by omega)

set_option maxHeartbeats 400000 in
/-- zzNondecreasing: where it says yes the numbers never go back. -/
theorem nondec_any (b off n c : Nat) (x : Nat → Int) (w : World) (hn : n ≤ 131072) (hl : Lies w b off n x) :
    Calls Try.prog 6 #[.slice (some ⟨b, off, none⟩) n c] w fun e w' => (∃ r : Bool, e = .returned (.bool r) ∧ (r = true → Nondec x n)) ∧ ∃ q, w' = w.drewN q := by
  have HL : Hid _ := hl
  clear hl
  go_enter Try.func6, Try.ntmps6
  go_wp2
  go_loopw [3] (fun i wr => ∃ k q : Nat, i = .int .i64 ((k : Int) + 1) ∧ k ≤ n ∧ wr = w.drewN q ∧ Hid (Nondec x (k + 1))) (fun i _ => (n + 1 - intOf i).toNat)
  case atStart => exact ⟨0, 0, rfl, Nat.zero_le _, rfl, fun j hj => by omega⟩
  case round =>
    obtain ⟨k, q, rfl, hk, rfl, hd⟩ := hrel
    by_cases hlt : k + 1 < n
    · have h1 := HL.out k (by omega)
      have h2 := HL.out (k + 1) hlt
      have b1 : (k : Int) < (n : Int) := by omega
      have b2 : (k : Int) + 1 < (n : Int) := by omega
      by_cases hx : x (k + 1) < x k
      · go_wp2
        go_quiet (fail)
        go_wp2
        go_ret
        exact ⟨⟨false, rfl, fun h => by cases h⟩, q + nq, (by first | rfl | exact World.drewN_drewN _ _ _)⟩
      · go_wp2
        go_quiet (fail)
        go_wp2
        go_roundw
        case rel => exact ⟨k + 1, q + nq, by go_num, by omega, (by first | rfl | exact World.drewN_drewN _ _ _), nondec_succ x k hd.out (by omega)⟩
        case measure => simp [intOf]; omega
    · go_wp2
      go_ret
      exact ⟨⟨true, rfl, fun _ j hj => hd.out j (by omega)⟩, q, rfl⟩

/-- How many of the first k numbers are at or before t. -/
def cnt (x : Nat → Int) (t : Int) : Nat → Nat
  | 0 => 0
  | k + 1 => cnt x t k + if x k ≤ t then 1 else 0

theorem cnt_le (x : Nat → Int) (t : Int) (k : Nat) : cnt x t k ≤ k := by
  induction k with
  | zero => exact Nat.le_refl _
  | succ k ih => rw [cnt]; split <;> omega

theorem cnt_hit (x : Nat → Int) (t : Int) (k : Nat) (h : x k ≤ t) : cnt x t (k + 1) = cnt x t k + 1 := by rw [cnt, if_pos h]
theorem cnt_miss (x : Nat → Int) (t : Int) (k : Nat) (h : ¬ x k ≤ t) : cnt x t (k + 1) = cnt x t k := by rw [cnt, if_neg h]; rfl

set_option maxHeartbeats 400000 in
/-- zzCountAtOrBefore. -/
theorem count_any (b off n c : Nat) (x : Nat → Int) (t : Int) (w : World) (hn : n ≤ 131072) (hl : Lies w b off n x) :
    Calls Try.prog 9 #[.slice (some ⟨b, off, none⟩) n c, .int .i64 t] w fun e w' => e = .returned (.int .i64 (cnt x t n)) ∧ w = w' := by
  have HL : Hid _ := hl
  clear hl
  go_enter Try.func9, Try.ntmps9
  go_wp2
  go_loop [5, 6] (fun s i => ∃ k : Nat, i = .int .i64 k ∧ k ≤ n ∧ s = .int .i64 (cnt x t k)) (fun _ i => n - (intOf i).toNat)
  case atStart => exact ⟨0, rfl, Nat.zero_le _, rfl⟩
  case round =>
    obtain ⟨k, rfl, hk, rfl⟩ := hrel
    have hcl := cnt_le x t k
    by_cases hlt : k < n
    · have h1 := HL.out k hlt
      by_cases hx : x k ≤ t
      · have HC : Hid (cnt x t (k + 1) = cnt x t k + 1) := cnt_hit x t k hx
        go_wp2
        go_round
        case rel => exact ⟨k + 1, by go_num, by omega, by rw [HC.out]; go_num⟩
        case measure => simp [intOf]; omega
      · have HC : Hid (cnt x t (k + 1) = cnt x t k) := cnt_miss x t k hx
        go_wp2
        go_round
        case rel => exact ⟨k + 1, by go_num, by omega, by rw [HC.out]⟩
        case measure => simp [intOf]; omega
    · obtain rfl : k = n := by omega
      go_wp2
      go_ret
      exact ⟨rfl, rfl⟩

set_option maxHeartbeats 400000 in
/-- zzCountAtOrBefore of no element at all, a nil slice too. -/
theorem count_none (a : Option Addr) (c : Nat) (t : Int) (w : World) :
    Calls Try.prog 9 #[.slice a 0 c, .int .i64 t] w fun e w' => e = .returned (.int .i64 0) ∧ w = w' := by
  go_enter Try.func9, Try.ntmps9
  go_wp2
  refine wp_loop_rounds 1 ?_
  rw [rounds_succ]
  go_wp2
  go_ret
  exact ⟨rfl, rfl⟩

set_option maxHeartbeats 400000 in
/-- zzNondecreasing of no element at all, a nil slice too. -/
theorem nondec_none (a : Option Addr) (c : Nat) (w : World) :
    Calls Try.prog 6 #[.slice a 0 c] w fun e w' => e = .returned (.bool true) ∧ w = w' := by
  go_enter Try.func6, Try.ntmps6
  go_wp2
  refine wp_loop_rounds 1 ?_
  rw [rounds_succ]
  go_wp2
  go_ret
  exact ⟨rfl, rfl⟩

end Go.Proofs.Qxb6603538a
