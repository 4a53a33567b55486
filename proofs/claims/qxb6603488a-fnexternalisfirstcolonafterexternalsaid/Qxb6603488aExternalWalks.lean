/-
  The walks: what each Go function on the road of FnExternalIsFirstColonAfterExternal computes.
-/
import Derived.Test.Qxb6603488aProg
import Derived.Test.Qxb6603488aExternalPlain
import Derived.WalkKit
import Derived.WalkSpells
import Derived.WalkLawsBesides
namespace Go.Proofs.Qxb6603488a
open Go.RowKit

theorem ret_bool {a b : Bool} (h : a = b) : Ending.returned (.bool a) = .returned (.bool b) := by rw [h]

theorem ext_short (s : ByteArray) (h : ¬ 9 ≤ s.size) : extB s = false := by
  cases he : extB s with
  | false => rfl
  | true =>
    have := congrArg List.length (extB_take s he)
    simp at this
    omega

set_option maxHeartbeats 400000 in
/-- ledger.External: 'extB'. -/
theorem external_any (s : ByteArray) (w : World) (hs : s.size ≤ 65536) :
    Calls Try.prog 11 #[.string s] w fun e w' => e = .returned (.bool (extB s)) ∧ w' = w := by
  by_cases h9 : 9 ≤ s.size
  · go_enter Try.func11, Try.ntmps11
    go_wp2
    go_ret
    exact ⟨rfl, rfl⟩
  · rw [ext_short s h9]
    go_enter Try.func11, Try.ntmps11
    go_wp2
    go_ret
    exact ⟨rfl, rfl⟩

set_option maxHeartbeats 400000 in
/-- The law's own model: 'extB' too. -/
theorem model_any (s : ByteArray) (w : World) (hs : s.size ≤ 65536) :
    Calls Try.prog 12 #[.string s] w fun e w' => e = .returned (.bool (extB s)) ∧ w' = w := by
  go_enter Try.func12, Try.ntmps12
  go_wp2
  go_loop [3, 4] (fun c i => ∃ k : Nat, k ≤ s.size ∧ i = .int .i64 k ∧ c = .int .i64 (-1) ∧ Hid (NoColon s k)) (fun _ i => s.size - (intOf i).toNat)
  case atStart => exact ⟨0, Nat.zero_le _, rfl, rfl, noColon_zero s⟩
  case round =>
    obtain ⟨k, hk, rfl, rfl, hn⟩ := hrel
    by_cases hlt : k < s.size
    · by_cases h8 : k = 8
      · subst h8
        by_cases hc : ((s[8].toNat : Int) == 58) = true
        · go_wp2
          go_ret
          exact ⟨ret_bool (ext_eight s hlt hc), rfl⟩
        · have hc' : ((s[8].toNat : Int) == 58) = false := by simpa using hc
          clear hc
          go_wp2
          go_round
          case rel => exact ⟨9, by omega, rfl, rfl, noColon_succ s 8 hlt hn.out hc'⟩
          case measure => simp [intOf]; omega
      · by_cases hc : ((s[k].toNat : Int) == 58) = true
        · have he : Hid (extB s = false) := ext_other s k hlt hc hn.out h8
          go_wp2
          go_ret
          exact ⟨ret_bool he.out.symm, rfl⟩
        · have hc' : ((s[k].toNat : Int) == 58) = false := by simpa using hc
          clear hc
          go_wp2
          go_round
          case rel => exact ⟨k + 1, by omega, by go_num, rfl, noColon_succ s k hlt hn.out hc'⟩
          case measure => simp [intOf]; omega
    · have he : Hid (extB s = false) := ext_none s k (by omega) hn.out
      go_wp2
      go_ret
      exact ⟨ret_bool he.out.symm, rfl⟩

set_option maxHeartbeats 400000 in
/-- The law: true, whatever the string. -/
theorem law_any (s : ByteArray) (w : World) (hm : s.size ≤ maxLen) :
    Calls Try.prog 4 #[.string s] w fun e w' => e = .returned (.bool true) ∧ w' = w := by
  unfold maxLen at hm
  by_cases hb : s.size ≤ 1048576
  · by_cases hs : s.size ≤ 65536
    · go_enter Try.func4, Try.ntmps4
      go_wp2_with (first | (go_at_call 11; refine (external_any _ _ hs).mono ?_; rintro e w' ⟨rfl, rfl⟩) | (go_at_call 12; refine (model_any _ _ hs).mono ?_; rintro e w' ⟨rfl, rfl⟩) | go_in)
      go_ret
      exact ⟨ret_bool (by simp), rfl⟩
    · go_enter Try.func4, Try.ntmps4
      go_wp2
      go_ret
      exact ⟨rfl, rfl⟩
  · go_enter Try.func4, Try.ntmps4
    go_wp2
    go_ret
    exact ⟨rfl, rfl⟩

end Go.Proofs.Qxb6603488a
