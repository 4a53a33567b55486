/-
  ZZrepeatedError and the law.
-/
import Derived.Test.Qxb6603681aFmtAs
import Derived.Test.Qxb6603681aFmtErr
namespace Go.Proofs.Qxb6603681aFmt
open Go.RowKit Go.Extern.Stop Go.Stop Go.Extern

/-- What errors.As leaves, said of cells. -/
theorem as_cells (e t : Addr) (old : Value) (w : World) (hg : w.cell? ⟨0, 0, none⟩ = some (.iface 90 (.agg #[.pointer (some ⟨1, 38, none⟩)]))) (ht0 : w.cell? t = some old) (hf0 : w.frozen? t = false) :
    Calls Tryf.prog 9 #[.iface 42 (.pointer (some e)), .iface 44 (.pointer (some t))] w fun ev w' => ev = .returned (.bool true) ∧ Below t.block w w' ∧ w'.cell? t = some (.pointer (some e)) ∧
      ∀ p : Addr, p.block < w.heap.size → p.block ≠ t.block → w'.cell? p = w.cell? p := by
  have htl : t.block < w.heap.size := World.block_lt_of_cell? _ _ ht0
  refine (as_hit e t old w hg ht0 hf0).mono fun ev w' ⟨h1, h2⟩ => ?_
  subst h2
  have B4 : Below w.heap.size w ((((w.alloc (.cells #[.pointer (some t)] 44)).alloc (.cells #[.pointer (some ⟨1, 44, none⟩), .pointer (some ⟨w.heap.size, 0, none⟩), .int .u64 150] 72)).alloc (.cells #[.pointer (some ⟨1, 44, none⟩), .pointer (some ⟨w.heap.size, 0, none⟩), .int .u64 150] 72)).alloc (.cells #[.pointer (some e)] 42)) :=
    ((((Below.refl _ w).alloc (Nat.le_refl _) _).alloc (by simp) _).alloc (by simp; omega) _).alloc (by simp; omega) _
  refine ⟨h1, (B4.mono (Nat.le_of_lt htl)).setCell (Nat.le_refl _) _, World.cell?_setCell_same _ _ _ (cell_later B4 ht0), fun p hp hne => ?_⟩
  rw [World.cell?_setCell_other _ _ _ _ (fun e => hne (by rw [e])), B4.cell hp]

set_option maxRecDepth 100000 in
set_option maxHeartbeats 2000000 in
theorem zzRepeated (F : Interp) (lo sp : ByteArray) (w : World) (hF : F.answers w.tape) (hg : w.cell? ⟨0, 0, none⟩ = some (.iface 90 (.agg #[.pointer (some ⟨1, 38, none⟩)]))) :
    Calls Tryf.prog 5 #[.string lo, .string sp] w fun e w' => ∃ msg : ByteArray, e = .returned (.tuple #[.bool false, .bool true, .int .i64 1, .string msg]) ∧ Below w.heap.size w w' := by
  have HG : Hid _ := hg
  have HF : Hid _ := hF
  clear hg hF
  go_enter Tryf.func5, Tryf.ntmps5
  go_wp2_with (first | (go_at_call 7; refine (newReader _ _).mono ?_; rintro e w' ⟨rfl, rfl⟩) | (go_at_call 6; refine (newDecoder _ _).mono ?_; rintro e w' ⟨rfl, rfl⟩))
  refine (repeated F _ (w.heap.size + 1 + 1) 0 0 sp lo _ ?_ ?_ ?_ ?_ ?_).mono ?_
  · exact HF.out
  · go_simp
  · go_simp
  · go_simp
  · go_simp
  rintro e w5 ⟨b, msg, rfl, hb, c0, c1, hbel⟩
  have B5 : Below w.heap.size w w5 := (((((Below.refl _ w).alloc (Nat.le_refl _) _).alloc (by simp) _).alloc (by simp; omega) _).alloc (by simp; omega) _).trans (hbel.mono (by simp; omega))
  have hb5 : b < w5.heap.size := World.block_lt_of_cell? _ _ c0
  have hgA : (w5.alloc (.cells #[.pointer none] 42)).cell? ⟨0, 0, none⟩ = some (.iface 90 (.agg #[.pointer (some ⟨1, 38, none⟩)])) := cell_later (B5.alloc B5.size _) HG.out
  have htA : (w5.alloc (.cells #[.pointer none] 42)).cell? ⟨w5.heap.size, 0, none⟩ = some (.pointer none) := by simp
  have hfA : (w5.alloc (.cells #[.pointer none] 42)).frozen? ⟨w5.heap.size, 0, none⟩ = false := by simp
  have hc0 : (w5.alloc (.cells #[.pointer none] 42)).cell? ⟨b, 0, none⟩ = some (.int .i64 1) := cell_later ((Below.refl _ w5).alloc (Nat.le_refl _) _) c0
  have hc1 : (w5.alloc (.cells #[.pointer none] 42)).cell? ⟨b, 1, none⟩ = some (.string msg) := cell_later ((Below.refl _ w5).alloc (Nat.le_refl _) _) c1
  have HB5 : Hid _ := B5
  have HA := as_cells ⟨b, 0, none⟩ ⟨w5.heap.size, 0, none⟩ (.pointer none) (w5.alloc (.cells #[.pointer none] 42)) hgA htA hfA
  have H0 : Hid _ := hc0
  have H1 : Hid _ := hc1
  clear hb c0 c1 hbel B5 hgA htA hfA hc0 hc1 HG HF
  go_wp2_with fail
  refine HA.mono ?_
  rintro e w7 ⟨rfl, hbel7, ct, hold⟩
  have d0 : w7.cell? ⟨b, 0, none⟩ = some (.int .i64 1) := (hold ⟨b, 0, none⟩ (by simp; omega) (by simp; omega)).trans H0.out
  have d1 : w7.cell? ⟨b, 1, none⟩ = some (.string msg) := (hold ⟨b, 1, none⟩ (by simp; omega) (by simp; omega)).trans H1.out
  have HB7 : Hid (Below w.heap.size w w7) := (HB5.out.alloc HB5.out.size _).trans (hbel7.mono HB5.out.size)
  clear hold hbel7 H0 H1 HA HB5
  go_wp2
  go_quiet (fail)
  go_wp2
  exact bodyPost_ret (v := .tuple #[.bool false, .bool true, .int .i64 1, .string msg]) (by simp [results, Tryf.results5, go_sem]) rfl ⟨msg, rfl, below_drewN HB7.out nq⟩

set_option maxHeartbeats 1000000 in
/-- The law: true, whatever the two strings. -/
theorem law_any (F : Interp) (lo sp : ByteArray) (w : World) (hl : lo.size ≤ maxLen) (hs : sp.size ≤ maxLen) (hF : F.answers w.tape) (hg : w.cell? ⟨0, 0, none⟩ = some (.iface 90 (.agg #[.pointer (some ⟨1, 38, none⟩)]))) :
    Calls Tryf.prog 3 #[.string lo, .string sp] w fun e w' => e = .returned (.bool true) ∧ Below w.heap.size w w' := by
  unfold maxLen at hl hs
  have hz := zzRepeated F lo sp w hF hg
  clear hF hg
  by_cases h1 : lo.size ≤ 1048576
  · by_cases h2 : sp.size ≤ 1048576
    · by_cases h3 : lo.size + sp.size ≤ 1048576
      · go_enter Tryf.func3, Tryf.ntmps3
        go_wp2_with (first | (go_at_call 5; refine hz.mono ?_; rintro e w' ⟨msg, rfl, hb⟩) | (go_at_call 4; go_in))
        go_ret
        exact ⟨rfl, hb⟩
      · go_enter Tryf.func3, Tryf.ntmps3
        go_wp2_with ((go_at_call 4; go_in))
        go_ret
        exact ⟨rfl, Below.refl _ _⟩
    · go_enter Tryf.func3, Tryf.ntmps3
      go_wp2_with ((go_at_call 4; go_in))
      go_ret
      exact ⟨rfl, Below.refl _ _⟩
  · go_enter Tryf.func3, Tryf.ntmps3
    go_wp2_with ((go_at_call 4; go_in))
    go_ret
    exact ⟨rfl, Below.refl _ _⟩

end Go.Proofs.Qxb6603681aFmt
