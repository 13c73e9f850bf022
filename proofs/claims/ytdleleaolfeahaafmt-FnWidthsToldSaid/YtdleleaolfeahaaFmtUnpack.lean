/- impl.Unpack: with a width that is not from 2 to 8 nothing, and not the end; of the stream 80 10 60 20 the byte 65, the end, four bytes taken. Conditions: io.EOF holds an error of errors.New's make; the tape's answers are a function's. -/
import Derived.Test.YtdleleaolfeahaaFmtAll
namespace Go.Proofs.YtdleleaolfeahaaFmt
open Go.RowKit Go.Extern.Stop Go.Stop Go.Extern

theorem order_any (b : Bool) (w : World) : Calls Tryf.prog 17 #[.bool b] w fun e w' => e = .returned (.int .i64 (if b then 1 else 0)) ∧ w = w' := by
  cases b
  all_goals
    go_enter Tryf.func17, Tryf.ntmps17
    go_wp2
    go_ret
    exact ⟨rfl, rfl⟩

/-- What Unpack gives with a width that is not from 2 to 8: nothing, and not the end. -/
def UnBad (w : World) (e : Ending) (w' : World) : Prop :=
  ∃ x, e = .returned (.tuple #[.slice none 0 0, .bool false, .int .i64 x]) ∧ Below w.heap.size w w'

set_option maxHeartbeats 4000000 in
theorem unpack_bad (F : Interp) (msb : Bool) (n : Int) (a : Option Addr) (l cp : Nat) (cE : Array Value) (tE : TypeId) (ea : Addr) (w : World) (hF : F.answers w.tape) (hn : n < 2 ∨ 8 < n)
    (hE : w.cell? ⟨0, 0, none⟩ = some (.iface 78 (.pointer (some ea)))) (hEa : w.heap[ea.block]? = some (.cells cE tE (0, 0))) :
    Calls Tryf.prog 9 #[.bool msb, .int .i64 n, .slice a l cp] w (UnBad w) := by
  obtain ⟨o, ho⟩ : ∃ o : Int, o = (if msb then 1 else 0) := ⟨_, rfl⟩
  have ho2 : o = 0 ∨ o = 1 := by rw [ho]; cases msb <;> simp
  have hord := order_any msb
  rw [← ho] at hord
  have HO : Hid (∀ (w : World), Calls Tryf.prog 17 #[.bool msb] w fun e w' => e = .returned (.int .i64 o) ∧ w = w') := hord
  clear ho hord
  go_enter Tryf.func9, Tryf.ntmps9
  go_wp2_with fail
  refine (HO.out _).mono ?_
  rintro e w0 ⟨rfl, rfl⟩
  have hs : Blk (w.alloc (.cells #[.slice a l cp] 44)) w.heap.size 44 #[.slice a l cp] := Blk.new _ _ _
  have hb1 : Below w.heap.size w (w.alloc (.cells #[.slice a l cp] 44)) := (Below.refl _ _).alloc (Nat.le_refl _) _
  have hsz1 : w.heap.size < (w.alloc (.cells #[.slice a l cp] 44)).heap.size := by simp
  generalize w.alloc (.cells #[.slice a l cp] 44) = W1 at *
  have hFW : F.answers W1.tape := by rw [hb1.tape]; exact hF
  have hlt0 : 0 < w.heap.size := World.block_lt_of_cell? w _ hE
  have hlt1 : ea.block < w.heap.size := by
    apply Decidable.byContradiction
    intro hn
    rw [Array.getElem?_eq_none (by omega)] at hEa
    cases hEa
  go_wp2_with fail
  refine (newReader_bad F ⟨w.heap.size, 0, none⟩ o n W1 hFW ho2 hn).mono ?_
  rintro e W2 ⟨rfl, c, k, x, hd, hk1, hk, h6, h7, hb2⟩
  have hs2 := hs.below hb2 hsz1
  have hE2 := (hb2.cell (p := ⟨0, 0, none⟩) (by show 0 < _; omega)).trans ((hb1.cell (p := ⟨0, 0, none⟩) hlt0).trans hE)
  have hEa2 := (hb2.block ea.block (by omega)).trans ((hb1.block ea.block hlt1).trans hEa)
  have hne : (⟨k, 0, none⟩ : Addr) ≠ ea := by intro h; rw [← h] at hlt1; simp at hlt1; omega
  go_wp2_with fail
  refine (all_bad W1.heap.size k c cE _ tE 80 ea W2 hd h6 h7 hE2 hEa2 hk hne).mono ?_
  rintro e W3 ⟨rfl, hb3⟩
  have hs3 := hs2.below hb3 hs2.lt
  have e3 := hs3.cell 0
  simp at e3
  clear hE2 hEa2 hEa hE
  go_wp2_with fail
  go_quiet (fail)
  go_wp2_with fail
  go_ret3
  exact ⟨_, rfl, below_dn ((hb1.trans (hb2.mono (by omega))).trans (hb3.mono (by have := hb2.size; omega))) _⟩

/-- What Unpack gives of the stream 80 10 60 20. -/
def UnGood (w : World) (e : Ending) (w' : World) : Prop :=
  ∃ v, e = .returned (.tuple #[v, .bool true, .int .i64 4]) ∧ w'.ownsRow w.heap.size 5 1 v 1 [.int .u8 65] ∧ Below w.heap.size w w'

set_option maxHeartbeats 4000000 in
theorem unpack_good (t : Nat) (ea : Addr) (w : World) (ht : Blk w t 5 #[.int .u8 128, .int .u8 16, .int .u8 96, .int .u8 32]) (hE : w.cell? ⟨0, 0, none⟩ = some (.iface 78 (.pointer (some ea)))) :
    Calls Tryf.prog 9 #[.bool true, .int .i64 8, .slice (some ⟨t, 0, none⟩) 4 4] w (UnGood w) := by
  go_enter Tryf.func9, Tryf.ntmps9
  go_wp2_with fail
  refine (order_any true _).mono ?_
  rintro e w0 ⟨rfl, rfl⟩
  have hlt0 : 0 < w.heap.size := World.block_lt_of_cell? w _ hE
  have hs : Blk (w.alloc (.cells #[.slice (some ⟨t, 0, none⟩) 4 4] 44)) w.heap.size 44 #[.slice (some ⟨t, 0, none⟩) 4 4] := Blk.new _ _ _
  have hb1 : Below w.heap.size w (w.alloc (.cells #[.slice (some ⟨t, 0, none⟩) 4 4] 44)) := (Below.refl _ _).alloc (Nat.le_refl _) _
  have hsz1 : w.heap.size < (w.alloc (.cells #[.slice (some ⟨t, 0, none⟩) 4 4] 44)).heap.size := by simp
  have ht1 := ht.below hb1 ht.lt
  have htl := ht.lt
  generalize w.alloc (.cells #[.slice (some ⟨t, 0, none⟩) 4 4] 44) = W1 at *
  go_wp2_with fail
  refine (newReader_good w.heap.size W1).mono ?_
  rintro e W2 ⟨rfl, c, hd, D0, hsz2, hb2⟩
  have hs2 := hs.below hb2 hsz1
  have ht2 := ht1.below hb2 (by omega)
  have hE2 := (hb2.cell (p := ⟨0, 0, none⟩) (by show 0 < _; omega)).trans ((hb1.cell (p := ⟨0, 0, none⟩) hlt0).trans hE)
  have HSZ : Hid (W2.heap.size = W1.heap.size + 1) := hsz2
  clear hsz2
  go_wp2_with fail
  refine (all_good w.heap.size W1.heap.size w.heap.size t c ea W2 hd hs2 ht2 D0 hE2 hlt0 (by omega) (Nat.le_refl _)).mono ?_
  rintro e W3 ⟨v, rfl, hown, hs3, hb3⟩
  have e3 := hs3.cell 0
  simp at e3
  have HO : Hid (W3.ownsRow W2.heap.size 5 1 v 1 [.int .u8 65]) := hown
  clear hE2 hE hown
  go_wp2_with fail
  go_quiet (fail)
  go_wp2_with fail
  go_ret3
  exact ⟨v, rfl, ownsRow_mono HO.out (by have := HSZ.out; omega), below_dn ((hb1.trans (hb2.mono (by omega))).trans hb3) _⟩
end Go.Proofs.YtdleleaolfeahaaFmt
