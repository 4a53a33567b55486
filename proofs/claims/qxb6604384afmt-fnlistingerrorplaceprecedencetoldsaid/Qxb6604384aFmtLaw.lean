/-
  (*ListingError).Error without a place; ZZListingErrorTexts; the law.
-/
import Derived.Test.Qxb6604384aFmtErr
namespace Go.Proofs.Qxb6604384aFmt
open Go.RowKit Go.Extern.Stop Go.Stop Go.Extern

theorem Tryf.methodError (a : Addr) (w : World) : (Go.method 218 43 (.pointer (some a)) "Error").run Tryf.prog w = .ok (44, .pointer (some a)) w := by kernel_rfl

theorem ret_bool {a b : Bool} (h : a = b) : Ending.returned (.bool a) = .returned (.bool b) := by rw [h]

set_option maxRecDepth 100000 in
set_option maxHeartbeats 1000000 in
/-- No place that is positive: the wrapped error's own text. -/
theorem error_none (b : Nat) (ea : Addr) (l s a : Int) (msg : ByteArray) (w : World) (hl : l ≤ 0) (hs : s ≤ 0) (ha : a ≤ 0) (h0 : w.cell? ⟨b, 0, none⟩ = some (.int .i64 l)) (h1 : w.cell? ⟨b, 1, none⟩ = some (.int .i64 s)) (h2 : w.cell? ⟨b, 2, none⟩ = some (.int .i64 a)) (h3 : w.cell? ⟨b, 3, none⟩ = some (.iface 43 (.pointer (some ea)))) (hm : w.cell? ea = some (.string msg)) :
    Calls Tryf.prog 15 #[.pointer (some ⟨b, 0, none⟩)] w fun e w' => e = .returned (.string msg) ∧ w = w' := by
  have hme := Tryf.methodError
  go_enter Tryf.func15, Tryf.ntmps15
  go_wp2
  go_ret
  exact ⟨rfl, rfl⟩

/-- A listing error of these places over a new error of the text msg says T. -/
def Says (F : Interp) (l s a : Int) (msg T : ByteArray) : Prop := ∀ (b : Nat) (ea : Addr) (w : World), F.answers w.tape → w.cell? ⟨b, 0, none⟩ = some (.int .i64 l) → w.cell? ⟨b, 1, none⟩ = some (.int .i64 s) → w.cell? ⟨b, 2, none⟩ = some (.int .i64 a) →
  w.cell? ⟨b, 3, none⟩ = some (.iface 43 (.pointer (some ea))) → w.cell? ea = some (.string msg) → Calls Tryf.prog 15 #[.pointer (some ⟨b, 0, none⟩)] w fun e w' => e = .returned (.string T) ∧ Below w.heap.size w w'

theorem says_line (F : Interp) (l s a : Int) (msg : ByteArray) (hl : 0 < l) : Says F l s a msg (said F ⟨#[108, 105, 110, 101, 32, 37, 100, 58, 32, 37, 118]⟩ l msg) :=
  fun b ea w hF h0 h1 h2 h3 hm => error_line F b ea l s a msg w hF hl h0 h1 h2 h3 hm
theorem says_snap (F : Interp) (l s a : Int) (msg : ByteArray) (hl : l ≤ 0) (hs : 0 < s) : Says F l s a msg (said F ⟨#[115, 110, 97, 112, 115, 104, 111, 116, 32, 37, 100, 58, 32, 37, 118]⟩ s msg) :=
  fun b ea w hF h0 h1 h2 h3 hm => error_snap F b ea l s a msg w hF hl hs h0 h1 h2 h3 hm
theorem says_arch (F : Interp) (l s a : Int) (msg : ByteArray) (hl : l ≤ 0) (hs : s ≤ 0) (ha : 0 < a) : Says F l s a msg (said F ⟨#[97, 114, 99, 104, 105, 118, 101, 32, 37, 100, 58, 32, 37, 118]⟩ a msg) :=
  fun b ea w hF h0 h1 h2 h3 hm => error_arch F b ea l s a msg w hF hl hs ha h0 h1 h2 h3 hm
theorem says_none (F : Interp) (l s a : Int) (msg : ByteArray) (hl : l ≤ 0) (hs : s ≤ 0) (ha : a ≤ 0) : Says F l s a msg msg :=
  fun b ea w _ h0 h1 h2 h3 hm => (error_none b ea l s a msg w hl hs ha h0 h1 h2 h3 hm).mono fun e w' h => ⟨h.1, by rw [← h.2]; exact Below.refl _ _⟩

set_option maxRecDepth 100000 in
set_option maxHeartbeats 1000000 in
/-- ZZListingErrorTexts: the two texts. -/
theorem texts (F : Interp) (l s a l2 s2 a2 : Int) (msg T1 T2 : ByteArray) (w : World) (hF : F.answers w.tape) (h1 : Says F l s a msg T1) (h2 : Says F l2 s2 a2 msg T2) :
    Calls Tryf.prog 7 #[.int .i64 l, .int .i64 s, .int .i64 a, .int .i64 l2, .int .i64 s2, .int .i64 a2, .string msg] w fun e w' => e = .returned (.tuple #[.string T1, .string T2]) ∧ Below w.heap.size w w' := by
  have B3 : Below w.heap.size w (((w.alloc (.cells #[.string msg] 45)).alloc (.cells #[.int .i64 l, .int .i64 s, .int .i64 a, .iface 43 (.pointer (some ⟨w.heap.size, 0, none⟩))] 37)).alloc (.cells #[.int .i64 l2, .int .i64 s2, .int .i64 a2, .iface 43 (.pointer (some ⟨w.heap.size, 0, none⟩))] 37)) :=
    (((Below.refl _ w).alloc (Nat.le_refl _) _).alloc (by simp) _).alloc (by simp; omega) _
  have e1 := h1 (w.heap.size + 1) ⟨w.heap.size, 0, none⟩ (((w.alloc (.cells #[.string msg] 45)).alloc (.cells #[.int .i64 l, .int .i64 s, .int .i64 a, .iface 43 (.pointer (some ⟨w.heap.size, 0, none⟩))] 37)).alloc (.cells #[.int .i64 l2, .int .i64 s2, .int .i64 a2, .iface 43 (.pointer (some ⟨w.heap.size, 0, none⟩))] 37)) hF
    (by go_simp) (by go_simp) (by go_simp) (by go_simp) (by go_simp)
  have c0 : (((w.alloc (.cells #[.string msg] 45)).alloc (.cells #[.int .i64 l, .int .i64 s, .int .i64 a, .iface 43 (.pointer (some ⟨w.heap.size, 0, none⟩))] 37)).alloc (.cells #[.int .i64 l2, .int .i64 s2, .int .i64 a2, .iface 43 (.pointer (some ⟨w.heap.size, 0, none⟩))] 37)).cell? ⟨w.heap.size + 1 + 1, 0, none⟩ = some (.int .i64 l2) := by go_simp
  have c1 : (((w.alloc (.cells #[.string msg] 45)).alloc (.cells #[.int .i64 l, .int .i64 s, .int .i64 a, .iface 43 (.pointer (some ⟨w.heap.size, 0, none⟩))] 37)).alloc (.cells #[.int .i64 l2, .int .i64 s2, .int .i64 a2, .iface 43 (.pointer (some ⟨w.heap.size, 0, none⟩))] 37)).cell? ⟨w.heap.size + 1 + 1, 1, none⟩ = some (.int .i64 s2) := by go_simp
  have c2 : (((w.alloc (.cells #[.string msg] 45)).alloc (.cells #[.int .i64 l, .int .i64 s, .int .i64 a, .iface 43 (.pointer (some ⟨w.heap.size, 0, none⟩))] 37)).alloc (.cells #[.int .i64 l2, .int .i64 s2, .int .i64 a2, .iface 43 (.pointer (some ⟨w.heap.size, 0, none⟩))] 37)).cell? ⟨w.heap.size + 1 + 1, 2, none⟩ = some (.int .i64 a2) := by go_simp
  have c3 : (((w.alloc (.cells #[.string msg] 45)).alloc (.cells #[.int .i64 l, .int .i64 s, .int .i64 a, .iface 43 (.pointer (some ⟨w.heap.size, 0, none⟩))] 37)).alloc (.cells #[.int .i64 l2, .int .i64 s2, .int .i64 a2, .iface 43 (.pointer (some ⟨w.heap.size, 0, none⟩))] 37)).cell? ⟨w.heap.size + 1 + 1, 3, none⟩ = some (.iface 43 (.pointer (some ⟨w.heap.size, 0, none⟩))) := by go_simp
  have cm : (((w.alloc (.cells #[.string msg] 45)).alloc (.cells #[.int .i64 l, .int .i64 s, .int .i64 a, .iface 43 (.pointer (some ⟨w.heap.size, 0, none⟩))] 37)).alloc (.cells #[.int .i64 l2, .int .i64 s2, .int .i64 a2, .iface 43 (.pointer (some ⟨w.heap.size, 0, none⟩))] 37)).cell? ⟨w.heap.size, 0, none⟩ = some (.string msg) := by go_simp
  have e2 := fun (w4 : World) (hb : Below (((w.alloc (.cells #[.string msg] 45)).alloc (.cells #[.int .i64 l, .int .i64 s, .int .i64 a, .iface 43 (.pointer (some ⟨w.heap.size, 0, none⟩))] 37)).alloc (.cells #[.int .i64 l2, .int .i64 s2, .int .i64 a2, .iface 43 (.pointer (some ⟨w.heap.size, 0, none⟩))] 37)).heap.size (((w.alloc (.cells #[.string msg] 45)).alloc (.cells #[.int .i64 l, .int .i64 s, .int .i64 a, .iface 43 (.pointer (some ⟨w.heap.size, 0, none⟩))] 37)).alloc (.cells #[.int .i64 l2, .int .i64 s2, .int .i64 a2, .iface 43 (.pointer (some ⟨w.heap.size, 0, none⟩))] 37)) w4) =>
    h2 (w.heap.size + 1 + 1) ⟨w.heap.size, 0, none⟩ w4 (by rw [hb.tape]; exact hF) (cell_later hb c0) (cell_later hb c1) (cell_later hb c2) (cell_later hb c3) (cell_later hb cm)
  have HB3 : Hid _ := B3
  have hsz : w.heap.size ≤ (((w.alloc (.cells #[.string msg] 45)).alloc (.cells #[.int .i64 l, .int .i64 s, .int .i64 a, .iface 43 (.pointer (some ⟨w.heap.size, 0, none⟩))] 37)).alloc (.cells #[.int .i64 l2, .int .i64 s2, .int .i64 a2, .iface 43 (.pointer (some ⟨w.heap.size, 0, none⟩))] 37)).heap.size := B3.size
  have HS : Hid _ := hsz
  clear c0 c1 c2 c3 cm h1 h2 hF B3 hsz
  go_enter Tryf.func7, Tryf.ntmps7
  go_wp2_with (go_at_call 14; go_in)
  refine e1.mono ?_
  rintro e w4 ⟨rfl, hb4⟩
  have e3 := e2 w4 hb4
  have HB4 : Hid _ := hb4
  clear e1 e2 hb4
  go_wp2_with fail
  refine e3.mono ?_
  rintro e w5 ⟨rfl, hb5⟩
  go_wp2
  go_ret2
  exact ⟨rfl, (HB3.out.trans (HB4.out.mono HS.out)).trans (hb5.mono (Nat.le_trans HS.out HB4.out.size))⟩

set_option maxRecDepth 100000 in
set_option maxHeartbeats 1000000 in
/-- The law: true, whatever the places and the text. -/
theorem law_any (F : Interp) (l s a : Int) (msg : ByteArray) (w : World) (hm : msg.size ≤ maxLen) (hF : F.answers w.tape) :
    Calls Tryf.prog 3 #[.int .i64 l, .int .i64 s, .int .i64 a, .string msg] w fun e w' => e = .returned (.bool true) ∧ Below w.heap.size w w' := by
  unfold maxLen at hm
  by_cases hb : msg.size ≤ 1048576
  · by_cases hl : 0 < l
    · have ht := texts F l s a l 0 0 msg _ _ w hF (says_line F l s a msg hl) (says_line F l 0 0 msg hl)
      generalize said F ⟨#[108, 105, 110, 101, 32, 37, 100, 58, 32, 37, 118]⟩ l msg = T at ht
      clear hF
      go_enter Tryf.func3, Tryf.ntmps3
      go_wp2_with (first | (go_at_call 7; refine ht.mono ?_; rintro e w' ⟨rfl, hbel⟩) | (go_at_call 6; go_in))
      go_ret
      exact ⟨ret_bool (by simp), hbel⟩
    · by_cases hs : 0 < s
      · have ht := texts F l s a 0 s 0 msg _ _ w hF (says_snap F l s a msg (by omega) hs) (says_snap F 0 s 0 msg (by omega) hs)
        generalize said F ⟨#[115, 110, 97, 112, 115, 104, 111, 116, 32, 37, 100, 58, 32, 37, 118]⟩ s msg = T at ht
        clear hF
        go_enter Tryf.func3, Tryf.ntmps3
        go_wp2_with (first | (go_at_call 7; refine ht.mono ?_; rintro e w' ⟨rfl, hbel⟩) | (go_at_call 6; go_in))
        go_ret
        exact ⟨ret_bool (by simp), hbel⟩
      · by_cases ha : 0 < a
        · have ht := texts F l s a 0 0 a msg _ _ w hF (says_arch F l s a msg (by omega) (by omega) ha) (says_arch F 0 0 a msg (by omega) (by omega) ha)
          generalize said F ⟨#[97, 114, 99, 104, 105, 118, 101, 32, 37, 100, 58, 32, 37, 118]⟩ a msg = T at ht
          clear hF
          go_enter Tryf.func3, Tryf.ntmps3
          go_wp2_with (first | (go_at_call 7; refine ht.mono ?_; rintro e w' ⟨rfl, hbel⟩) | (go_at_call 6; go_in))
          go_ret
          exact ⟨ret_bool (by simp), hbel⟩
        · have ht := texts F l s a 0 0 0 msg _ _ w hF (says_none F l s a msg (by omega) (by omega) (by omega)) (says_none F 0 0 0 msg (by omega) (by omega) (by omega))
          clear hF
          go_enter Tryf.func3, Tryf.ntmps3
          go_wp2_with (first | (go_at_call 7; refine ht.mono ?_; rintro e w' ⟨rfl, hbel⟩) | (go_at_call 6; go_in))
          go_ret
          exact ⟨ret_bool (by simp), hbel⟩
  · clear hF
    go_enter Tryf.func3, Tryf.ntmps3
    go_wp2_with ((go_at_call 6; go_in))
    go_ret
    exact ⟨rfl, Below.refl _ _⟩

end Go.Proofs.Qxb6604384aFmt
