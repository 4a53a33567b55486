/-
  (*ListingError).Error over fmt's stop, in its four ways.
-/
import Derived.Test.Qxb6604384aFmtProg
import Derived.WalkKit
import Derived.WalkSpells
import Derived.WalkLawsBesides
import Derived.Stop.CallBack
import Derived.Stop.IfaceNil
import Derived.Stop.Texts
import Derived.RegionTactic
import Derived.Deep.RegionWith
import GoSem.ClaimData
namespace Go.Proofs.Qxb6604384aFmt
open Go.RowKit Go.Extern.Stop Go.Stop Go.Extern
set_option linter.unusedVariables false

theorem Tryf.call18 (args : Array Value) (w : World) : (callFunc 18 args).run Tryf.prog w = (FmtCalls.sprintf #[9, 71] #[9] args).run Tryf.prog w :=
  run_callFunc_next Tryf.func18 (by kernel_rfl) (by kernel_rfl) (by kernel_rfl) args w
theorem Tryf.guard (name : String) (w : World) : (FmtStop.guard name).run Tryf.prog w = .ok () w := by kernel_rfl
theorem Tryf.nextTurns : Extern.next FmtCalls.turnsRow = some (FmtCalls.begun #[] #[]) := by kernel_rfl

/-- The three formats: 'line', 'snapshot', 'archive', each with a number and a text behind it. -/
theorem Tryf.fmtL : FmtStop.printed? ⟨#[108, 105, 110, 101, 32, 37, 100, 58, 32, 37, 118]⟩ 2 = some [(0, 100, false), (1, 118, false)] := by kernel_rfl
theorem Tryf.fmtLr (w : World) : (FmtDoors.printed ⟨#[108, 105, 110, 101, 32, 37, 100, 58, 32, 37, 118]⟩ 2).run Tryf.prog w = .ok [(0, 100, false), (1, 118, false)] w := by kernel_rfl
theorem Tryf.fmtS : FmtStop.printed? ⟨#[115, 110, 97, 112, 115, 104, 111, 116, 32, 37, 100, 58, 32, 37, 118]⟩ 2 = some [(0, 100, false), (1, 118, false)] := by kernel_rfl
theorem Tryf.fmtSr (w : World) : (FmtDoors.printed ⟨#[115, 110, 97, 112, 115, 104, 111, 116, 32, 37, 100, 58, 32, 37, 118]⟩ 2).run Tryf.prog w = .ok [(0, 100, false), (1, 118, false)] w := by kernel_rfl
theorem Tryf.fmtA : FmtStop.printed? ⟨#[97, 114, 99, 104, 105, 118, 101, 32, 37, 100, 58, 32, 37, 118]⟩ 2 = some [(0, 100, false), (1, 118, false)] := by kernel_rfl
theorem Tryf.fmtAr (w : World) : (FmtDoors.printed ⟨#[97, 114, 99, 104, 105, 118, 101, 32, 37, 100, 58, 32, 37, 118]⟩ 2).run Tryf.prog w = .ok [(0, 100, false), (1, 118, false)] w := by kernel_rfl

def Tryf.shape3 : List UInt8 := [5, 3, 0, 0, 0, 0, 0, 0, 0, 105, 110, 116]
theorem Tryf.act3_100 (name : String) (x : Value) (w : World) : (FmtCalls.act name false 100 false (.iface 3 x)).run Tryf.prog w = .ok (.closed false) w := by kernel_rfl
theorem Tryf.op3_100 (name : String) (x : Int) (w : World) : (FmtStop.operand name false 100 false (.iface 3 (.int .i64 x))).run Tryf.prog w = .ok (Tryf.shape3, Go.Extern.Stop.digits 8 (x % 2 ^ 64).toNat) w := by kernel_rfl
theorem Tryf.act43_118 (name : String) (x : Value) (w : World) : (FmtCalls.act name false 118 false (.iface 43 x)).run Tryf.prog w = .ok (.closed false) w := by kernel_rfl
def Tryf.plain43 : List UInt8 := [14, 19, 0, 0, 0, 0, 0, 0, 0, 42, 101, 114, 114, 111, 114, 115, 46, 101, 114, 114, 111, 114, 83, 116, 114, 105, 110, 103]
theorem Tryf.plainIs : 14 :: FmtStop.pack Tryf.t43.str.toUTF8.data.toList = Tryf.plain43 := by kernel_rfl
theorem Tryf.opPlain43_118 (name : String) (a : Addr) (s : ByteArray) (w : World) (hc : w.cell? a = some (.string s)) :
    (FmtStop.operand name false 118 false (.iface 43 (.pointer (some a)))).run Tryf.prog w = .ok (Tryf.plain43, s.data.toList) w := by
  have h1 : (typeStr 43).run Tryf.prog w = .ok Tryf.t43.str w := by kernel_rfl
  have d2 : Tryf.t43.desc = .pointer 45 := rfl
  have d3 : Tryf.t45.desc = .named "errors.errorString" 44 := rfl
  simp [FmtStop.operand, h1, d2, d3, run_load, hc]
  exact Tryf.plainIs

/-- What fmt is asked. -/
def reading (f : ByteArray) (n : Int) (msg : ByteArray) : List (List UInt8) := [f.data.toList, Tryf.shape3, Go.Extern.Stop.digits 8 (n % 18446744073709551616).toNat, Tryf.plain43, msg.data.toList]
/-- The text that comes back. -/
def said (F : Interp) (f : ByteArray) (n : Int) (msg : ByteArray) : ByteArray := FmtStop.textOf (F "fmt.Sprintf" (reading f n msg) 0)

set_option maxRecDepth 100000 in
theorem sprintf_rows (F : Interp) (f : ByteArray) (n : Int) (ea : Addr) (msg : ByteArray) (blk : Nat) (W : World) (hF : F.answers W.tape)
    (c0 : W.cell? ⟨blk, 0, none⟩ = some (.iface 3 (.int .i64 n))) (c1 : W.cell? ⟨blk, 1, none⟩ = some (.iface 43 (.pointer (some ea)))) (cm : W.cell? ea = some (.string msg)) :
    Rows Tryf.prog FmtCalls.turnsRow (FmtCalls.save 0 0 (.slice (some ⟨blk, 0, none⟩) 2 2) f [] [(0, 100, false), (1, 118, false)]) W fun v w' => v = .string (said F f n msg) ∧ w' = W.drew := by
  have hF' := answers_open hF
  have kg := Tryf.guard
  have ka := Tryf.act3_100
  have ko := Tryf.op3_100
  have kb := Tryf.act43_118
  have kp := Tryf.opPlain43_118 "fmt.Sprintf" ea msg W cm
  apply rows_value Tryf.nextTurns
  case hr =>
    go_simp
    exact ⟨rfl, rfl⟩
  case h => exact ⟨rfl, rfl⟩

set_option maxRecDepth 100000 in
set_option maxHeartbeats 1000000 in
/-- A line that is positive: the text of that line, whatever the other places. -/
theorem error_line (F : Interp) (b : Nat) (ea : Addr) (l s a : Int) (msg : ByteArray) (w : World) (hF : F.answers w.tape) (hl : 0 < l) (h0 : w.cell? ⟨b, 0, none⟩ = some (.int .i64 l)) (h1 : w.cell? ⟨b, 1, none⟩ = some (.int .i64 s)) (h2 : w.cell? ⟨b, 2, none⟩ = some (.int .i64 a)) (h3 : w.cell? ⟨b, 3, none⟩ = some (.iface 43 (.pointer (some ea)))) (hm : w.cell? ea = some (.string msg)) :
    Calls Tryf.prog 15 #[.pointer (some ⟨b, 0, none⟩)] w fun e w' => e = .returned (.string (said F ⟨#[108, 105, 110, 101, 32, 37, 100, 58, 32, 37, 118]⟩ l msg)) ∧ Below w.heap.size w w' := by
  have hF' := answers_open hF
  have k18 := Tryf.call18
  have kg := Tryf.guard
  have kf := Tryf.fmtL
  have kr := Tryf.fmtLr
  have B1 : Below w.heap.size w (w.alloc (.cells #[.iface 3 (.int .i64 l), .iface 43 (.pointer (some ea))] 20)) := (Below.refl _ w).alloc (Nat.le_refl _) _
  have hrow := sprintf_rows F ⟨#[108, 105, 110, 101, 32, 37, 100, 58, 32, 37, 118]⟩ l ea msg w.heap.size ((w.alloc (.cells #[.iface 3 (.int .i64 l), .iface 43 (.pointer (some ea))] 20)).drew) hF (by go_simp) (by go_simp) (cell_later B1.drew hm)
  go_enter Tryf.func15, Tryf.ntmps15
  go_wp2
  go_region_with (with_reducible refine Rows.mono hrow ?_; rintro v w' ⟨rfl, rfl⟩)
  all_goals go_wp2
  all_goals go_ret
  all_goals exact ⟨rfl, B1.drew.drew⟩

set_option maxRecDepth 100000 in
set_option maxHeartbeats 1000000 in
/-- No line; a snapshot that is positive. -/
theorem error_snap (F : Interp) (b : Nat) (ea : Addr) (l s a : Int) (msg : ByteArray) (w : World) (hF : F.answers w.tape) (hl : l ≤ 0) (hs : 0 < s) (h0 : w.cell? ⟨b, 0, none⟩ = some (.int .i64 l)) (h1 : w.cell? ⟨b, 1, none⟩ = some (.int .i64 s)) (h2 : w.cell? ⟨b, 2, none⟩ = some (.int .i64 a)) (h3 : w.cell? ⟨b, 3, none⟩ = some (.iface 43 (.pointer (some ea)))) (hm : w.cell? ea = some (.string msg)) :
    Calls Tryf.prog 15 #[.pointer (some ⟨b, 0, none⟩)] w fun e w' => e = .returned (.string (said F ⟨#[115, 110, 97, 112, 115, 104, 111, 116, 32, 37, 100, 58, 32, 37, 118]⟩ s msg)) ∧ Below w.heap.size w w' := by
  have hF' := answers_open hF
  have k18 := Tryf.call18
  have kg := Tryf.guard
  have kf := Tryf.fmtS
  have kr := Tryf.fmtSr
  have B1 : Below w.heap.size w (w.alloc (.cells #[.iface 3 (.int .i64 s), .iface 43 (.pointer (some ea))] 20)) := (Below.refl _ w).alloc (Nat.le_refl _) _
  have hrow := sprintf_rows F ⟨#[115, 110, 97, 112, 115, 104, 111, 116, 32, 37, 100, 58, 32, 37, 118]⟩ s ea msg w.heap.size ((w.alloc (.cells #[.iface 3 (.int .i64 s), .iface 43 (.pointer (some ea))] 20)).drew) hF (by go_simp) (by go_simp) (cell_later B1.drew hm)
  go_enter Tryf.func15, Tryf.ntmps15
  go_wp2
  go_region_with (with_reducible refine Rows.mono hrow ?_; rintro v w' ⟨rfl, rfl⟩)
  all_goals go_wp2
  all_goals go_ret
  all_goals exact ⟨rfl, B1.drew.drew⟩

set_option maxRecDepth 100000 in
set_option maxHeartbeats 1000000 in
/-- No line, no snapshot; an archive that is positive. -/
theorem error_arch (F : Interp) (b : Nat) (ea : Addr) (l s a : Int) (msg : ByteArray) (w : World) (hF : F.answers w.tape) (hl : l ≤ 0) (hs : s ≤ 0) (ha : 0 < a) (h0 : w.cell? ⟨b, 0, none⟩ = some (.int .i64 l)) (h1 : w.cell? ⟨b, 1, none⟩ = some (.int .i64 s)) (h2 : w.cell? ⟨b, 2, none⟩ = some (.int .i64 a)) (h3 : w.cell? ⟨b, 3, none⟩ = some (.iface 43 (.pointer (some ea)))) (hm : w.cell? ea = some (.string msg)) :
    Calls Tryf.prog 15 #[.pointer (some ⟨b, 0, none⟩)] w fun e w' => e = .returned (.string (said F ⟨#[97, 114, 99, 104, 105, 118, 101, 32, 37, 100, 58, 32, 37, 118]⟩ a msg)) ∧ Below w.heap.size w w' := by
  have hF' := answers_open hF
  have k18 := Tryf.call18
  have kg := Tryf.guard
  have kf := Tryf.fmtA
  have kr := Tryf.fmtAr
  have B1 : Below w.heap.size w (w.alloc (.cells #[.iface 3 (.int .i64 a), .iface 43 (.pointer (some ea))] 20)) := (Below.refl _ w).alloc (Nat.le_refl _) _
  have hrow := sprintf_rows F ⟨#[97, 114, 99, 104, 105, 118, 101, 32, 37, 100, 58, 32, 37, 118]⟩ a ea msg w.heap.size ((w.alloc (.cells #[.iface 3 (.int .i64 a), .iface 43 (.pointer (some ea))] 20)).drew) hF (by go_simp) (by go_simp) (cell_later B1.drew hm)
  go_enter Tryf.func15, Tryf.ntmps15
  go_wp2
  go_region_with (with_reducible refine Rows.mono hrow ?_; rintro v w' ⟨rfl, rfl⟩)
  all_goals go_wp2
  all_goals go_ret
  all_goals exact ⟨rfl, B1.drew.drew⟩

end Go.Proofs.Qxb6604384aFmt
