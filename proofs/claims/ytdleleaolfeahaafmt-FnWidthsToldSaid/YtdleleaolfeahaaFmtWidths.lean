/- laws.FnWidths, walked: true at every input; nothing that was there turns. Conditions: io.EOF holds an error of errors.New's make; the tape's answers are a function's. -/
import Derived.Test.YtdleleaolfeahaaFmtUnpack
namespace Go.Proofs.YtdleleaolfeahaaFmt
open Go.RowKit Go.Extern.Stop Go.Stop Go.Extern

set_option maxHeartbeats 1000000 in
theorem same_65 (g g2 cap : Nat) (w : World) (h1 : w.cell? ⟨g, 0, none⟩ = some (.int .u8 65)) (h2 : w.cell? ⟨g2, 0, none⟩ = some (.int .u8 65)) :
    Calls Tryf.prog 13 #[.slice (some ⟨g, 0, none⟩) 1 cap, .slice (some ⟨g2, 0, none⟩) 1 1] w fun e w' => e = .returned (.bool true) ∧ w = w' := by
  have k1 : (convert 22 9 (.slice (some ⟨g, 0, none⟩) 1 cap)).run Tryf.prog w = .ok (.string ⟨#[65]⟩) w :=
    run_convert_bytes_back w 22 9 5 ⟨g, 0, none⟩ cap [65] Tryf.underlying22 Tryf.underlying5 Tryf.underlying9 (fun j hj => by
      match j, hj with
      | 0, _ => exact h1)
  have k2 : (convert 22 9 (.slice (some ⟨g2, 0, none⟩) 1 1)).run Tryf.prog w = .ok (.string ⟨#[65]⟩) w :=
    run_convert_bytes_back w 22 9 5 ⟨g2, 0, none⟩ 1 [65] Tryf.underlying22 Tryf.underlying5 Tryf.underlying9 (fun j hj => by
      match j, hj with
      | 0, _ => exact h2)
  go_enter Tryf.func13, Tryf.ntmps13
  go_wp2
  go_ret
  exact ⟨rfl, rfl⟩

theorem owns_65 {w : World} {base : Nat} {v : Value} (h : w.ownsRow base 5 1 v 1 [.int .u8 65]) : ∃ g cap, v = .slice (some ⟨g, 0, none⟩) 1 cap ∧ w.cell? ⟨g, 0, none⟩ = some (.int .u8 65) ∧ g < w.heap.size := by
  obtain ⟨_, ⟨_, h0⟩ | ⟨g, cap, cur, rfl, _, hh, _, _, _, htk⟩⟩ := h
  · cases h0
  · have hb : Blk w g 5 cur := hh
    refine ⟨g, cap, rfl, (hb.cell 0).trans ?_, hb.lt⟩
    have h1 : (cur.toList.take (1 * 1))[0]? = some (.int .u8 65) := by rw [htk]; rfl
    simpa using h1

set_option maxHeartbeats 1000000 in
theorem works_yes (ea : Addr) (w : World) (hE : w.cell? ⟨0, 0, none⟩ = some (.iface 78 (.pointer (some ea)))) :
    Calls Tryf.prog 10 #[] w fun e w' => e = .returned (.bool true) ∧ Below w.heap.size w w' := by
  have hlt0 : 0 < w.heap.size := World.block_lt_of_cell? w _ hE
  go_enter Tryf.func10, Tryf.ntmps10
  go_wp2_with fail
  have ht : Blk (w.alloc (.cells #[.int .u8 128, .int .u8 16, .int .u8 96, .int .u8 32] 5)) w.heap.size 5 #[.int .u8 128, .int .u8 16, .int .u8 96, .int .u8 32] := Blk.new _ _ _
  have hb1 : Below w.heap.size w (w.alloc (.cells #[.int .u8 128, .int .u8 16, .int .u8 96, .int .u8 32] 5)) := (Below.refl _ _).alloc (Nat.le_refl _) _
  generalize w.alloc (.cells #[.int .u8 128, .int .u8 16, .int .u8 96, .int .u8 32] 5) = W1 at *
  have hE1 := (hb1.cell (p := ⟨0, 0, none⟩) hlt0).trans hE
  refine (unpack_good w.heap.size ea W1 ht hE1).mono ?_
  rintro e W2 ⟨v, rfl, hown, hb2⟩
  obtain ⟨g, cap, rfl, hc, hgl⟩ := owns_65 hown
  have hb3 : Below w.heap.size w W2 := hb1.trans (hb2.mono hb1.size)
  clear hown hE1 hE
  go_wp2_with fail
  refine (same_65 g W2.heap.size cap _ ((World.cell?_alloc_lt W2 _ ⟨g, 0, none⟩ hgl).trans hc) (by simp)).mono ?_
  rintro e w3 ⟨rfl, rfl⟩
  go_wp2_with fail
  go_ret
  exact ⟨rfl, hb3.alloc hb3.size _⟩

set_option maxHeartbeats 1000000 in
theorem widths_any (F : Interp) (msb : Bool) (n : Int) (a : Option Addr) (l cp : Nat) (cE : Array Value) (tE : TypeId) (ea : Addr) (w : World) (hF : F.answers w.tape)
    (hE : w.cell? ⟨0, 0, none⟩ = some (.iface 78 (.pointer (some ea)))) (hEa : w.heap[ea.block]? = some (.cells cE tE (0, 0))) :
    Calls Tryf.prog 4 #[.bool msb, .int .i64 n, .slice a l cp] w fun e w' => e = .returned (.bool true) ∧ Below w.heap.size w w' := by
  have hlt0 : 0 < w.heap.size := World.block_lt_of_cell? w _ hE
  by_cases h1 : (2147483647 : Int) < l
  · go_enter Tryf.func4, Tryf.ntmps4
    go_wp2_with fail
    go_ret
    exact ⟨rfl, Below.refl _ _⟩
  · by_cases h2 : 2 ≤ n ∧ n ≤ 8
    · obtain ⟨h2, h3⟩ := h2
      go_enter Tryf.func4, Tryf.ntmps4
      go_wp2_with fail
      go_ret
      exact ⟨rfl, Below.refl _ _⟩
    · have hn : n < 2 ∨ 8 < n := by omega
      rcases hn with hn | hn
      all_goals
        go_enter Tryf.func4, Tryf.ntmps4
        go_wp2_with fail
        refine (unpack_bad F msb n a l cp cE tE ea w hF (by omega) hE hEa).mono ?_
        rintro e W1 ⟨x, rfl, hb1⟩
        have hE1 := (hb1.cell (p := ⟨0, 0, none⟩) hlt0).trans hE
        go_wp2_with fail
        refine (works_yes ea W1 hE1).mono ?_
        rintro e W2 ⟨rfl, hb2⟩
        go_wp2_with fail
        go_ret
        exact ⟨rfl, hb1.trans (hb2.mono hb1.size)⟩
end Go.Proofs.YtdleleaolfeahaaFmt
