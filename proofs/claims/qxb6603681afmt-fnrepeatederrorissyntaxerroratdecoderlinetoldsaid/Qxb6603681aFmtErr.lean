/-
  The road up to the error: strings.NewReader, xml.NewDecoder, scanner.errorf over fmt's stop.
-/
import Derived.Test.Qxb6603681aFmtProg
import Derived.WalkKit
import Derived.WalkSpells
import Derived.WalkLawsBesides
import Derived.Stop.CallBack
import Derived.Stop.IfaceNil
import Derived.Stop.Asserts
import Derived.Stop.Texts
import Derived.RegionTactic
import Derived.Deep.QuietTactic
import Derived.BigQuiet
import GoSem.ClaimData
namespace Go.Proofs.Qxb6603681aFmt
open Go.RowKit Go.Extern.Stop Go.Stop Go.Extern

theorem Tryf.call18 (args : Array Value) (w : World) : (callFunc 18 args).run Tryf.prog w = (FmtCalls.sprintf #[9, 85] #[9] args).run Tryf.prog w :=
  run_callFunc_next Tryf.func18 (by kernel_rfl) (by kernel_rfl) (by kernel_rfl) args w
theorem Tryf.guard (name : String) (w : World) : (FmtStop.guard name).run Tryf.prog w = .ok () w := by kernel_rfl
theorem Tryf.nextTurns : Extern.next FmtCalls.turnsRow = some (FmtCalls.begun #[] #[]) := by kernel_rfl
theorem Tryf.fmt2 : FmtStop.printed? ⟨#[110, 111, 116, 32, 119, 101, 108, 108, 45, 102, 111, 114, 109, 101, 100, 32, 88, 77, 76, 58, 32, 97, 116, 116, 114, 105, 98, 117, 116, 101, 32, 37, 113, 32, 111, 102, 32, 110, 97, 109, 101, 115, 112, 97, 99, 101, 32, 37, 113, 32, 114, 101, 112, 101, 97, 116, 101, 100]⟩ 2 = some [(0, 113, false), (1, 113, false)] := by kernel_rfl
theorem Tryf.fmt2r (w : World) : (FmtDoors.printed ⟨#[110, 111, 116, 32, 119, 101, 108, 108, 45, 102, 111, 114, 109, 101, 100, 32, 88, 77, 76, 58, 32, 97, 116, 116, 114, 105, 98, 117, 116, 101, 32, 37, 113, 32, 111, 102, 32, 110, 97, 109, 101, 115, 112, 97, 99, 101, 32, 37, 113, 32, 114, 101, 112, 101, 97, 116, 101, 100]⟩ 2).run Tryf.prog w = .ok [(0, 113, false), (1, 113, false)] w := by kernel_rfl
def Tryf.shape9 : List UInt8 := [12, 6, 0, 0, 0, 0, 0, 0, 0, 115, 116, 114, 105, 110, 103]
theorem Tryf.act9_113 (name : String) (x : Value) (w : World) : (FmtCalls.act name false 113 false (.iface 9 x)).run Tryf.prog w = .ok (.closed false) w := by kernel_rfl
theorem Tryf.op9_113 (name : String) (x : ByteArray) (w : World) : (FmtStop.operand name false 113 false (.iface 9 (.string x))).run Tryf.prog w = .ok (Tryf.shape9, FmtStop.pack x.data.toList) w := by kernel_rfl

set_option maxHeartbeats 400000 in
/-- (*xml.Decoder).InputPos at a decoder that stands on line 1. -/
theorem inputPos (d : Nat) (ls ofs : Int) (w : World) (h1 : w.cell? ⟨d, 21, none⟩ = some (.int .i64 1)) (h2 : w.cell? ⟨d, 22, none⟩ = some (.int .i64 ls)) (h3 : w.cell? ⟨d, 23, none⟩ = some (.int .i64 ofs)) :
    Calls Tryf.prog 17 #[.pointer (some ⟨d, 0, none⟩)] w fun e w' => (∃ c : Int, e = .returned (.tuple #[.int .i64 1, .int .i64 c])) ∧ ∃ q, w' = w.drewN q := by
  go_enter Tryf.func17, Tryf.ntmps17
  go_wp2
  go_quiet (fail)
  go_wp2
  go_ret2
  exact ⟨⟨_, rfl⟩, nq, rfl⟩

set_option maxHeartbeats 400000 in
/-- strings.NewReader. -/
theorem newReader (s : ByteArray) (w : World) :
    Calls Tryf.prog 7 #[.string s] w fun e w' => e = .returned (.pointer (some ⟨w.heap.size, 0, none⟩)) ∧ w' = w.alloc (.cells #[.string s, .int .i64 0, .int .i64 (-1)] 67) := by
  go_enter Tryf.func7, Tryf.ntmps7
  go_wp2
  go_ret
  exact ⟨rfl, rfl⟩

theorem Tryf.isByteReader (v : Value) (xT : TypeId) (w : World) : (Instr.typeAssert (.iface 28 v) xT 53 true).run Tryf.prog w = .ok (.tuple #[.iface 28 v, .bool true]) w := run_typeAssert_hasB Tryf.underlying53 (by kernel_rfl) v xT w

set_option maxRecDepth 100000 in
set_option maxHeartbeats 1000000 in
/-- xml.NewDecoder over a *strings.Reader: a map, then the decoder's own block. -/
theorem newDecoder (r : Addr) (w : World) :
    Calls Tryf.prog 6 #[.iface 28 (.pointer (some r))] w fun e w' => e = .returned (.pointer (some ⟨w.heap.size + 1, 0, none⟩)) ∧
      w' = (w.alloc (.map #[] 0)).alloc (.cells #[.bool true, .slice none 0 0, .map none, .nilFunc, .string ⟨#[]⟩, .iface 28 (.pointer (some r)), .nilIface, .slice none 0 0, .int .i64 0, .int .i8 0,
        .pointer none, .pointer none, .int .i64 0, .pointer none, .bool false, .string ⟨#[]⟩, .string ⟨#[]⟩, .nilIface, .int .i64 (-1), .map (some w.heap.size), .nilIface, .int .i64 1, .int .i64 0, .int .i64 0, .bool false] 64) := by
  have hmm := @run_makeMap Tryf.prog
  have hta := Tryf.isByteReader
  go_enter Tryf.func6, Tryf.ntmps6
  go_wp2
  go_end0
  go_wp2
  go_ret
  exact ⟨rfl, rfl⟩

theorem err_cells (W : World) (B : Nat) (m : ByteArray) (h : W.heap.size = B) : (W.alloc (.cells #[.int .i64 1, .string m] 46)).cell? ⟨B, 0, none⟩ = some (.int .i64 1) ∧ (W.alloc (.cells #[.int .i64 1, .string m] 46)).cell? ⟨B, 1, none⟩ = some (.string m) := by
  subst h
  exact ⟨by simp, by simp⟩

set_option maxRecDepth 100000 in
set_option maxHeartbeats 1000000 in
/-- (*scanner).repeatedError: a new *SyntaxError on line 1, its text whatever fmt gives. -/
theorem repeated (F : Interp) (sc d : Nat) (ls ofs : Int) (sp lo : ByteArray) (w : World) (hF : F.answers w.tape) (hs : w.cell? ⟨sc, 0, none⟩ = some (.pointer (some ⟨d, 0, none⟩)))
    (h1 : w.cell? ⟨d, 21, none⟩ = some (.int .i64 1)) (h2 : w.cell? ⟨d, 22, none⟩ = some (.int .i64 ls)) (h3 : w.cell? ⟨d, 23, none⟩ = some (.int .i64 ofs)) :
    Calls Tryf.prog 8 #[.pointer (some ⟨sc, 0, none⟩), .agg #[.string sp, .string lo]] w fun e w' => ∃ (b : Nat) (msg : ByteArray), e = .returned (.iface 42 (.pointer (some ⟨b, 0, none⟩))) ∧ w.heap.size ≤ b ∧
      w'.cell? ⟨b, 0, none⟩ = some (.int .i64 1) ∧ w'.cell? ⟨b, 1, none⟩ = some (.string msg) ∧ Below w.heap.size w w' := by
  have hF' := answers_open hF
  have k18 := Tryf.call18
  have kg := Tryf.guard
  have kf := Tryf.fmt2
  have kr := Tryf.fmt2r
  have ka := Tryf.act9_113
  have ko := Tryf.op9_113
  have B2 : Below w.heap.size w ((w.alloc (.cells #[.string sp, .string lo] 41)).alloc (.cells #[.iface 9 (.string lo), .iface 9 (.string sp)] 20)) := ((Below.refl _ w).alloc (Nat.le_refl _) _).alloc (by simp) _
  have hip := inputPos d ls ofs _ (cell_later B2 h1) (cell_later B2 h2) (cell_later B2 h3)
  have hsc := cell_later B2 hs
  have HB2 : Hid _ := B2
  clear B2 h1 h2 h3
  go_enter Tryf.func8, Tryf.ntmps8
  go_wp2_with (first | (go_at_call 17; refine hip.mono ?_; rintro e w' ⟨⟨c, rfl⟩, q, rfl⟩) | (go_at_call 11; go_in))
  apply rows_value Tryf.nextTurns
  case hr =>
    go_simp
    exact ⟨rfl, rfl⟩
  case h =>
    go_wp2
    go_ret
    exact ⟨w.heap.size + 1 + 1, _, rfl, by omega, (err_cells _ _ _ (by simp)).1, (err_cells _ _ _ (by simp)).2, (below_drewN HB2.out (q + 1)).alloc (by simp; omega) _⟩

end Go.Proofs.Qxb6603681aFmt
