/- NewReader: with a width that is not from 2 to 8 a decoder that has failed; with width 8 and MSB over the given reader a decoder at its start. Conditions: the order is LSB or MSB; the tape's answers are a function's. -/
import Derived.Test.YtdleleaolfeahaaFmtErr
import Derived.Test.YtdleleaolfeahaaFmtDec
import Derived.Laws.EntriesVeiled
namespace Go.Proofs.YtdleleaolfeahaaFmt
open Go.RowKit Go.Extern.Stop Go.Stop Go.Extern

/-- What a new decoder's cells hold. -/
structure ZDec (z : Array Value) : Prop where
  size : z.size = 16398
  c0 : z[0]? = some .nilIface
  c1 : z[1]? = some (.int .u32 0)
  c2 : z[2]? = some (.int .u64 0)
  c3 : z[3]? = some (.int .u64 0)
  c4 : z[4]? = some .nilFunc
  c5 : z[5]? = some (.int .i64 0)
  c6 : z[6]? = some .nilIface
  c7 : z[7]? = some (.int .u16 0)
  c8 : z[8]? = some (.int .u16 0)
  c9 : z[9]? = some (.int .u16 0)
  c10 : z[10]? = some (.int .u16 0)
  c11 : z[11]? = some (.int .u16 0)
  co : z[16396]? = some (.int .i64 0)
  ct : z[16397]? = some (.slice none 0 0)

theorem blk_new_at {w : World} {k : Nat} (t : TypeId) (cs : Array Value) (h : k = w.heap.size) : Blk (w.alloc (.cells cs t)) k t cs := h ▸ Blk.new w t cs

theorem opt_map {α β : Type} {o : Option α} {f : α → β} {y : β} (h : o.map f = some y) : ∃ x, o = some x ∧ f x = y := by
  cases o with
  | none => cases h
  | some x => exact ⟨x, rfl, by simpa using h⟩

theorem zero69 : ∃ i z, Tryf.prog.info? 69 = some i ∧ i.zero = some z ∧ ZDec z.cells := by
  have h0 : ((Tryf.prog.info? 69).map fun i => i.zero.isSome) = some true := by kernel_rfl
  obtain ⟨i, hi, hz⟩ := opt_map h0
  obtain ⟨z, hz⟩ := Option.isSome_iff_exists.1 hz
  have key : ∀ {β : Type} (f : Value → β) (y : β), (((Tryf.prog.info? 69).bind fun i => i.zero).map f) = some y → f z = y := by
    intro β f y h
    rw [hi] at h
    simp only [Option.bind_some, hz, Option.map_some, Option.some.injEq] at h
    exact h
  refine ⟨i, z, hi, hz, ⟨?_, ?_, ?_, ?_, ?_, ?_, ?_, ?_, ?_, ?_, ?_, ?_, ?_, ?_, ?_⟩⟩
  · exact key (fun z => z.cells.size) _ (by kernel_rfl)
  · exact key (fun z => z.cells[0]?) _ (by kernel_rfl)
  · exact key (fun z => z.cells[1]?) _ (by kernel_rfl)
  · exact key (fun z => z.cells[2]?) _ (by kernel_rfl)
  · exact key (fun z => z.cells[3]?) _ (by kernel_rfl)
  · exact key (fun z => z.cells[4]?) _ (by kernel_rfl)
  · exact key (fun z => z.cells[5]?) _ (by kernel_rfl)
  · exact key (fun z => z.cells[6]?) _ (by kernel_rfl)
  · exact key (fun z => z.cells[7]?) _ (by kernel_rfl)
  · exact key (fun z => z.cells[8]?) _ (by kernel_rfl)
  · exact key (fun z => z.cells[9]?) _ (by kernel_rfl)
  · exact key (fun z => z.cells[10]?) _ (by kernel_rfl)
  · exact key (fun z => z.cells[11]?) _ (by kernel_rfl)
  · exact key (fun z => z.cells[16396]?) _ (by kernel_rfl)
  · exact key (fun z => z.cells[16397]?) _ (by kernel_rfl)

/-- 'new(decoder)': a new block whose cells are a new decoder's. -/
theorem wpList_alloc69 {w : World} {ops : Array Oper} {rest : List Oper} {o : Oper} {a : Act} {Q : Exit → Act → World → Prop} (hgd : o.guard = none) (ho : o.op = .alloc 69)
    (h : ∀ z d W, ZDec z → Hid (d = w.heap.size) → Blk W d 69 z → Hid (W.heap.size = d + 1) → Below d w W → wpList Tryf.prog ops Q rest (a.put o.dst (.pointer (some ⟨d, 0, none⟩))) W) : wpList Tryf.prog ops Q (o :: rest) a w := by
  refine wpList_plain hgd fun K hK => ?_
  obtain ⟨i, z, hi, hz, hZ⟩ := zero69
  unfold Oper.wp
  simp [execOp, ho, Instr.alloc, zeroValue, typeInfo, hi, hz, newVar, newRow, Result.andThen]
  exact hK _ _ (h _ w.heap.size _ hZ rfl (Blk.new w 69 _) (by show (w.alloc _).heap.size = _; simp) ((Below.refl _ _).alloc (Nat.le_refl _) _))

/-- A reader that failed when it was made: its error is a new one. -/
def BadDec (w w' : World) : Prop :=
  ∃ c k x, Blk w' w.heap.size 69 c ∧ w.heap.size ≤ k ∧ Blk w' k 80 #[.string x] ∧ c[6]? = some (.iface 78 (.pointer (some ⟨k, 0, none⟩))) ∧ c[16397]? = some (.slice none 0 0) ∧ Below w.heap.size w w'

set_option maxHeartbeats 4000000 in
theorem newReader_bad (F : Interp) (s : Addr) (ord n : Int) (w : World) (hF : F.answers w.tape) (ho : ord = 0 ∨ ord = 1) (hn : n < 2 ∨ 8 < n) :
    Calls Tryf.prog 16 #[.iface 42 (.pointer (some s)), .int .i64 ord, .int .i64 n] w fun e w' => e = .returned (.iface 58 (.pointer (some ⟨w.heap.size, 0, none⟩))) ∧ BadDec w w' := by
  rcases ho with rfl | rfl <;> rcases hn with hn | hn
  all_goals
    try have hn2 : ¬ n < 2 := by omega
    go_enter Tryf.func16, Tryf.ntmps16
    go_wp2_with (first
      | (with_reducible refine wpList_alloc69 rfl rfl ?_; intro z d W Z HD hd HW hbel; have z4 := (hd.cell 4).trans Z.c4; have z6 := (hd.cell 6).trans Z.c6; have f4 := hd.frozen 4; have f6 := hd.frozen 6; have hlt := hd.lt; have hFW : F.answers W.tape := by (rw [hbel.tape]; exact hF))
      | (go_at_call 22; refine (errorf_width F n _ _ (by exact hFW) (by go_simp)).mono ?_; rintro e w2 ⟨rfl, x, rfl⟩))
    go_ret
    have hD := HD.out
    have hWs := HW.out
    subst hD
    refine ⟨rfl, _, W.heap.size + 1, x, ((((hd.set_ 4 _).set_ 6 _).alloc _).alloc _).drew, by omega, ?_, get_set _ _ _ (by rw [Array.size_setIfInBounds, Z.size]; decide), by rw [get_ne _ _ _ _ (by decide), get_ne _ _ _ _ (by decide)]; exact Z.ct, ?_⟩
    · exact (blk_new_at 80 _ (by simp)).drew
    exact ((((hbel.setCell (Nat.le_refl _) _).setCell (Nat.le_refl _) _).alloc (by simp; omega) _).alloc (by simp; omega) _).drew

theorem asByteReader (a : Addr) (w : World) : (Instr.typeAssert (.iface 42 (.pointer (some a))) 57 60 true).run Tryf.prog w = .ok (.tuple #[.iface 42 (.pointer (some a)), .bool true]) w := by kernel_rfl

theorem ZDec.good {z : Array Value} (h : ZDec z) (s : Nat) : Dec (((((((((z.setIfInBounds 4 (.func (.func 20) #[] #[])).setIfInBounds 0 (.iface 42 (.pointer (some ⟨s, 0, none⟩)))).setIfInBounds 5 (.int .i64 8)).setIfInBounds 3 (.int .u64 9)).setIfInBounds 7 (.int .u16 256)).setIfInBounds 8 (.int .u16 257)).setIfInBounds 9 (.int .u16 257)).setIfInBounds 10 (.int .u16 512)).setIfInBounds 11 (.int .u16 65535)) s 0 0 257 65535 0 .nilIface (.slice none 0 0) := by
  have hs := h.size
  constructor
  · simp [hs]
  · rw [get_ne _ _ _ _ (by decide), get_ne _ _ _ _ (by decide), get_ne _ _ _ _ (by decide), get_ne _ _ _ _ (by decide), get_ne _ _ _ _ (by decide), get_ne _ _ _ _ (by decide), get_ne _ _ _ _ (by decide)]; exact get_set _ _ _ (by simp [hs])
  · rw [get_ne _ _ _ _ (by decide), get_ne _ _ _ _ (by decide), get_ne _ _ _ _ (by decide), get_ne _ _ _ _ (by decide), get_ne _ _ _ _ (by decide), get_ne _ _ _ _ (by decide), get_ne _ _ _ _ (by decide), get_ne _ _ _ _ (by decide), get_ne _ _ _ _ (by decide)]; exact h.c1
  · rw [get_ne _ _ _ _ (by decide), get_ne _ _ _ _ (by decide), get_ne _ _ _ _ (by decide), get_ne _ _ _ _ (by decide), get_ne _ _ _ _ (by decide), get_ne _ _ _ _ (by decide), get_ne _ _ _ _ (by decide), get_ne _ _ _ _ (by decide), get_ne _ _ _ _ (by decide)]; exact h.c2
  · rw [get_ne _ _ _ _ (by decide), get_ne _ _ _ _ (by decide), get_ne _ _ _ _ (by decide), get_ne _ _ _ _ (by decide), get_ne _ _ _ _ (by decide)]; exact get_set _ _ _ (by simp [hs])
  · rw [get_ne _ _ _ _ (by decide), get_ne _ _ _ _ (by decide), get_ne _ _ _ _ (by decide), get_ne _ _ _ _ (by decide), get_ne _ _ _ _ (by decide), get_ne _ _ _ _ (by decide), get_ne _ _ _ _ (by decide), get_ne _ _ _ _ (by decide)]; exact get_set _ _ _ (by simp [hs])
  · rw [get_ne _ _ _ _ (by decide), get_ne _ _ _ _ (by decide), get_ne _ _ _ _ (by decide), get_ne _ _ _ _ (by decide), get_ne _ _ _ _ (by decide), get_ne _ _ _ _ (by decide)]; exact get_set _ _ _ (by simp [hs])
  · rw [get_ne _ _ _ _ (by decide), get_ne _ _ _ _ (by decide), get_ne _ _ _ _ (by decide), get_ne _ _ _ _ (by decide), get_ne _ _ _ _ (by decide), get_ne _ _ _ _ (by decide), get_ne _ _ _ _ (by decide), get_ne _ _ _ _ (by decide), get_ne _ _ _ _ (by decide)]; exact h.c6
  · rw [get_ne _ _ _ _ (by decide), get_ne _ _ _ _ (by decide), get_ne _ _ _ _ (by decide), get_ne _ _ _ _ (by decide)]; exact get_set _ _ _ (by simp [hs])
  · rw [get_ne _ _ _ _ (by decide), get_ne _ _ _ _ (by decide), get_ne _ _ _ _ (by decide)]; exact get_set _ _ _ (by simp [hs])
  · rw [get_ne _ _ _ _ (by decide), get_ne _ _ _ _ (by decide)]; exact get_set _ _ _ (by simp [hs])
  · rw [get_ne _ _ _ _ (by decide)]; exact get_set _ _ _ (by simp [hs])
  · exact get_set _ _ _ (by simp [hs])
  · rw [get_ne _ _ _ _ (by decide), get_ne _ _ _ _ (by decide), get_ne _ _ _ _ (by decide), get_ne _ _ _ _ (by decide), get_ne _ _ _ _ (by decide), get_ne _ _ _ _ (by decide), get_ne _ _ _ _ (by decide), get_ne _ _ _ _ (by decide), get_ne _ _ _ _ (by decide)]; exact h.co
  · rw [get_ne _ _ _ _ (by decide), get_ne _ _ _ _ (by decide), get_ne _ _ _ _ (by decide), get_ne _ _ _ _ (by decide), get_ne _ _ _ _ (by decide), get_ne _ _ _ _ (by decide), get_ne _ _ _ _ (by decide), get_ne _ _ _ _ (by decide), get_ne _ _ _ _ (by decide)]; exact h.ct

/-- A reader at its start, in a new block. -/
def GoodDec (s : Nat) (w w' : World) : Prop :=
  ∃ c, Blk w' w.heap.size 69 c ∧ Dec c s 0 0 257 65535 0 .nilIface (.slice none 0 0) ∧ w'.heap.size = w.heap.size + 1 ∧ Below w.heap.size w w'

set_option maxHeartbeats 4000000 in
theorem newReader_good (s : Nat) (w : World) :
    Calls Tryf.prog 16 #[.iface 42 (.pointer (some ⟨s, 0, none⟩)), .int .i64 1, .int .i64 8] w fun e w' => e = .returned (.iface 58 (.pointer (some ⟨w.heap.size, 0, none⟩))) ∧ GoodDec s w w' := by
  have hta := asByteReader ⟨s, 0, none⟩
  go_enter Tryf.func16, Tryf.ntmps16
  go_wp2_with (with_reducible refine wpList_alloc69 rfl rfl ?_; intro z d W Z HD hd HW hbel; have z0 := (hd.cell 0).trans Z.c0; have z3 := (hd.cell 3).trans Z.c3; have z4 := (hd.cell 4).trans Z.c4; have z5 := (hd.cell 5).trans Z.c5; have z7 := (hd.cell 7).trans Z.c7; have z8 := (hd.cell 8).trans Z.c8; have z9 := (hd.cell 9).trans Z.c9; have z10 := (hd.cell 10).trans Z.c10; have z11 := (hd.cell 11).trans Z.c11; have f0 := hd.frozen 0; have f3 := hd.frozen 3; have f4 := hd.frozen 4; have f5 := hd.frozen 5; have f7 := hd.frozen 7; have f8 := hd.frozen 8; have f9 := hd.frozen 9; have f10 := hd.frozen 10; have f11 := hd.frozen 11; have hlt := hd.lt)
  go_region
  go_wp2_with fail
  go_ret
  have hD := HD.out
  have hWs := HW.out
  subst hD
  refine ⟨rfl, _, (((((((((hd.set_ 4 _).set_ 0 _).set_ 5 _).set_ 3 _).set_ 7 _).set_ 8 _).set_ 9 _).set_ 10 _).set_ 11 _).drew, Z.good s, by simpa using hWs, ?_⟩
  exact (((((((((hbel.setCell (Nat.le_refl _) _).setCell (Nat.le_refl _) _).setCell (Nat.le_refl _) _).setCell (Nat.le_refl _) _).setCell (Nat.le_refl _) _).setCell (Nat.le_refl _) _).setCell (Nat.le_refl _) _).setCell (Nat.le_refl _) _).setCell (Nat.le_refl _) _).drew

end Go.Proofs.YtdleleaolfeahaaFmt
