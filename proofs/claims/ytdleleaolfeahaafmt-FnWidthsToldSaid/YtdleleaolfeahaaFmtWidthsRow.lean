/- The told and tied card of laws.FnWidths: it returns true whatever the input, and each argument reads behind the call as it read before. Conditions: none beyond the card's own (io.EOF is laid as the program's text lays it). -/
import Derived.Test.YtdleleaolfeahaaFmtWidths
import Derived.Test.YtdleleaolfeahaaFmtCards
import Derived.Test.YtdleleaolfeahaaFmtTie
import Derived.ProofKit
import Derived.Stop.JoinedAt
import Derived.Stop.Texts
import Derived.Stop.JoinedTold
import Derived.Stop.LaidErr
import Derived.OpenShut
namespace Go.Proofs.YtdleleaolfeahaaFmt
open Go.ChangeShapes Go.WideShapes Go.ChangeAt Go.RowKit Go.Kit
open Go.Extern.Stop Go.Stop Go.Extern

theorem Tryf.own : ownKnob Tryf.prog.godebug = none := by kernel_rfl
theorem Tryf.laidOut : laidOutB Tryf.pinned.checked.prog = true := by kernel_rfl
theorem Tryf.stops : Tryf.pinned.checked.prog.stops = ["fmt.errorf"] := by kernel_rfl
theorem Tryf.stopKnobs : Tryf.pinned.checked.prog.stopKnobs = [] := by kernel_rfl
theorem Tryf.quiet (os : Os) : Stop.quiet Tryf.pinned.checked.prog os := by
  intro k hk
  rw [Tryf.stopKnobs] at hk
  cases hk
theorem Tryf.gE : Tryf.prog.globalNamed "io.EOF" = some 0 := by kernel_rfl
theorem Tryf.gEType : (Tryf.prog.globals[0]?).map (·.type) = some 48 := by kernel_rfl
theorem Tryf.cells80 : Tryf.prog.cellsOf 80 = 1 := by kernel_rfl
theorem Tryf.cells9 : Tryf.prog.cellsOf 9 = 1 := by kernel_rfl
theorem Tryf.star : "*" ++ "errors.errorString" = "*errors.errorString" := by decide
theorem Tryf.row78 (u : TypeId) (h : Tryf.prog.typeName? 3 u = some "*errors.errorString") : u = 78 :=
  typeName_ptr_named (nm := "errors.errorString") (by rw [Tryf.star]; kernel_rfl) (by kernel_rfl) (by decide) u (by rw [Tryf.star]; exact h)

/-- What 'laid' says of io.EOF: it holds an error of errors.New's make; its block is a plain one. -/
theorem laid_eof {W : World} (h : laidMet Tryf.prog [("io.EOF", Rows.laid_io_EOF)] W) :
    ∃ (a : Addr) (c : Array Value) (t : TypeId), W.cell? ⟨0, 0, none⟩ = some (.iface 78 (.pointer (some a))) ∧ W.heap[a.block]? = some (.cells c t (0, 0)) := by
  obtain ⟨ps, ⟨g0, t0, cs0, f0, p0, q0, hg0, ht0, hv0, hd0, _, e0⟩, _, hrows⟩ := h
  obtain rfl := Option.some.inj (Tryf.gE.symm.trans hg0)
  obtain rfl := Option.some.inj (Tryf.gEType.symm.trans ht0)
  subst e0
  obtain ⟨l0⟩ := cs0
  have ok0 : ∀ u v, l0 = [.iface u v] → Value.okWide Tryf.prog W .any 0 u v := fun u v e => by
    subst e
    exact (hrows 0 0 (by simp [MemPlace.row])).2 u v (by simpa using World.var?_cell Tryf.gE hv0 0)
  obtain ⟨a0, s0, rfl, hc0, _, _, rfl⟩ := errorString_of_trod Tryf.underlying48 Tryf.row78 Tryf.underlying78 Tryf.underlying80 rfl rfl Tryf.underlying9 Tryf.cells80 Tryf.cells9 hd0 ok0
  obtain ⟨c, t, hb⟩ := (hrows a0.block a0.off (by simp [MemPlace.row])).1
  exact ⟨a0, c, t, by simpa using World.var?_cell Tryf.gE hv0 0, hb⟩

abbrev eofS : ByteArray := { data := #[69, 79, 70] }
noncomputable def low : Nat := (World.holding Tryf.prog default ⟨#[], #[], []⟩).heap.size
/-- A start that fits: io.EOF as it is laid. -/
noncomputable def laidWorld (os : Os) : World :=
  let w0 := World.holding Tryf.prog os ⟨#[.cells #[.string eofS] 80], #[], []⟩
  { w0 with heap := w0.heap.modify 0 fun
      | .cells _ t frozen => .cells #[.iface 78 (.pointer (some ⟨low, 0, none⟩))] t frozen
      | o => o }
theorem laid_met (os : Os) (args : Array Value) : laidMet Tryf.prog Rows.fnWidthsRow.laid ((laidWorld os).forCall (fun _ _ => 0) ⟨#[], args, []⟩).memory :=
  laidMet_of_run (ps := [.cell 0 0, .cell low 0]) 8 (by kernel_rfl) (by kernel_rfl) (by kernel_rfl)

set_option maxRecDepth 100000 in
set_option maxHeartbeats 1600000 in
theorem widths_lifted (os : Os) (started : os.Started) (H : Type) (enc : TypeId × Value → H) :
    ReturnsInTold none {} Tryf.checked os 4 .any Input.okWide ((OpenSpec.ofChange Rows.fnWidthsSpec).preRow enc Tryf.prog Tryf.f4 [] false Rows.fnWidthsRow.laid) (fun F => ((OpenSpec.ofChange Rows.fnWidthsSpec).at F).post enc Tryf.prog Tryf.f4 false true false false) (aloneAtReturn Tryf.prog) nothingAlways := by
  refine returnsInTold_of_row (C := Tryf.checked) (s := OpenSpec.ofChange Rows.fnWidthsSpec) (by kernel_rfl) Tryf.own started (by kernel_rfl) Tryf.func4
    (OpenSpec.witness_stopped_at (enc := enc) (C := Tryf.checked) false (laidWorld os) #[.bool false, .int .i64 0, .slice none 0 0] rfl (by kernel_rfl) (by kernel_rfl) (by kernel_rfl)
      (OpenSpec.preRow_of_B rfl 8 (by kernel_rfl) (by kernel_rfl) (laid_met os _))) ?_
  intro F W base args ds gs before _ hF hval0 hW _ _ _ hL _
  have hval : ∀ (j : Nat) t v, Tryf.f4.params[j]? = some t → args[j]? = some v → Value.okWide Tryf.prog W .any base t v := hval0
  have hW' := hW
  obtain ⟨p, q, hA0, hV0, rfl, _, _⟩ := hW
  have hA : DataW.TrodAll enc Tryf.prog W 0 (fun _ => true) true Tryf.f4.params.toList args.toList ds p := hA0
  rw [Tryf.params4] at hA hval
  obtain ⟨v0, v1, v2, d0, d1, d2, p0, p1, p2, rfl, rfl, rfl, h0, h1, h2⟩ := trodAll_three hA
  obtain ⟨rfl, rfl⟩ := trodVars_none hV0
  obtain ⟨msb, rfl, rfl, rfl⟩ := open_bool Tryf.underlying4 (hval 0 4 v0 rfl rfl) h0
  obtain ⟨n, rfl, rfl, rfl, wn⟩ := open_int Tryf.underlying3 (hval 1 3 v1 rfl rfl) h1
  obtain ⟨a0, len, cap, rfl⟩ := okWide_slice Tryf.underlying22 (hval 2 22 v2 rfl rfl)
  have hL' : laidMet Tryf.prog [("io.EOF", Rows.laid_io_EOF)] W := hL
  obtain ⟨ea, cE, tE, hE, hEa⟩ := laid_eof hL'
  clear hA0 hV0 hval0
  simp only [List.append_nil, List.nil_append] at hW'
  have hlt : ∀ x ∈ p2, x.block < W.heap.size := fun x hx => by simpa using hW'.lt x hx
  refine (widths_any F.told msb n a0 len cap cE tE ea W hF hE hEa).mono fun e W' ⟨he, hB⟩ => ?_
  subst he
  have h2' : DataW.Trod enc Tryf.prog W' 0 (fun b => decide (b < W.heap.size)) true 22 (.slice a0 len cap) d2 p2 :=
    Below.trod Tryf.laidOut (by kernel_rfl) (of_decide_eq_true (by kernel_rfl)) h2 hB hlt
  have e1 : ((OpenSpec.ofChange Rows.fnWidthsSpec).at F.told).fn H ([.lit (.bool msb), .lit (.int .i64 n), d2] ++ []) = { results := [.lit (.bool true)], args := [.lit (.bool msb), .lit (.int .i64 n), d2] } := rfl
  refine ⟨_, rfl, _, _, _, [], p2, [], hW', ?_, ?_, ?_, hB.frame _, fun h => by cases h⟩
  · rw [e1]; exact trodAll_mk1 (shut_bool Tryf.underlying4 true)
  · rw [e1]; exact trodAll_mk3 (shut_bool Tryf.underlying4 msb) (shut_int Tryf.underlying3 wn) h2'
  · rw [e1]; rfl

theorem fnWidths_holds : Rows.FnWidthsToldSaid :=
  Claim7.holds_of_told_tied_any_at .later 4 Tryf.f4 "fmt.errorf" [] [] _ _ _ _ _ (by kernel_rfl) rfl rfl rfl Tryf.laidOut (by kernel_rfl) rfl ⟨rfl, rfl, rfl, rfl, rfl, rfl, rfl⟩ rfl rfl (by kernel_rfl) (by kernel_rfl) Tryf.func4 (by kernel_rfl)
    (of_decide_eq_true (by kernel_rfl)) (of_decide_eq_true (by kernel_rfl)) Tryf.stops.symm rfl Tryf.stopKnobs.symm (by kernel_rfl)
    (by kernel_rfl) (by kernel_rfl) (by kernel_rfl) (by kernel_rfl) (by kernel_rfl) (by kernel_rfl) (by kernel_rfl) (by kernel_rfl) (by kernel_rfl) rfl (by kernel_rfl) rfl rfl
    rfl rfl
    rfl (by kernel_rfl) (by kernel_rfl) (by kernel_rfl) (by decide) (by kernel_rfl) fnWidths_row_tie
    (OpenClaim.moreEntering_of (by kernel_rfl) (by kernel_rfl) (by kernel_rfl) (by kernel_rfl) (by kernel_rfl) (by kernel_rfl) (by kernel_rfl) (by kernel_rfl) (by kernel_rfl) (by kernel_rfl))
    ⟨_, WideRow.started_initial, Tryf.quiet _⟩
    (fun os started _ H enc _ => widths_lifted os started H enc)

#print axioms fnWidths_holds
end Go.Proofs.YtdleleaolfeahaaFmt
