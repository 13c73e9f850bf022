/- Small facts on memory that the walks of this seat use: a block that is known whole (Blk), and two worlds that differ in two blocks at most (Touch). No condition; nothing of the program stands here. -/
import Derived.WalkKit
import Derived.Deep.Draws
import Derived.Laws.CopyOwn
namespace Go.Proofs.YtdleleaolfeahaaFmt
open Go.RowKit

/-- Block g is just the cells cs of element type t, none of them frozen. -/
def Blk (w : World) (g : Nat) (t : TypeId) (cs : Array Value) : Prop := w.heap[g]? = some (.cells cs t (0, 0))

section
variable {w w' : World} {g : Nat} {t : TypeId} {cs : Array Value}
theorem Blk.eq {cs' : Array Value} (h : Blk w g t cs) (e : cs = cs') : Blk w g t cs' := e ▸ h
theorem Blk.lt (h : Blk w g t cs) : g < w.heap.size := by
  apply Decidable.byContradiction
  intro hn
  unfold Blk at h
  rw [Array.getElem?_eq_none (by omega)] at h
  cases h
theorem Blk.cell (h : Blk w g t cs) (i : Nat) : w.cell? ⟨g, i, none⟩ = cs[i]? := by
  unfold Blk at h
  simp [World.cell?, h]
theorem Blk.frozen (h : Blk w g t cs) (i : Nat) : w.frozen? ⟨g, i, none⟩ = false := by
  unfold Blk at h
  simp [World.frozen?, h]
theorem Blk.new (w : World) (t : TypeId) (cs : Array Value) : Blk (w.alloc (.cells cs t)) w.heap.size t cs := heap_alloc_new w _
theorem Blk.drew (h : Blk w g t cs) : Blk w.drew g t cs := h
theorem Blk.drewN (h : Blk w g t cs) (n : Nat) : Blk (w.drewN n) g t cs := h
theorem Blk.alloc (h : Blk w g t cs) (o : Obj) : Blk (w.alloc o) g t cs := (Below.heap_alloc w o g h.lt).trans h
theorem Blk.set_ (h : Blk w g t cs) (i : Nat) (u : Value) : Blk (w.setCell ⟨g, i, none⟩ u) g t (cs.setIfInBounds i u) := by
  unfold Blk at h ⊢
  simp [World.setCell, Array.getElem?_modify, h]
theorem Blk.far (h : Blk w g t cs) {p : Addr} (hp : g ≠ p.block) (u : Value) : Blk (w.setCell p u) g t cs := (Below.heap_setCell w p u g hp).trans h
theorem Blk.below {B : Nat} (h : Blk w g t cs) (hb : Below B w w') (hg : g < B) : Blk w' g t cs := (hb.block g hg).trans h
theorem Blk.ne_ {g' : Nat} {t' : TypeId} {cs' : Array Value} (h : Blk w g t cs) (h' : Blk w g' t' cs') (hne : t ≠ t') : g ≠ g' := by
  intro e
  subst e
  unfold Blk at h h'
  rw [h] at h'
  injection h' with h'
  injection h' with _ ht
  exact hne ht
end

/-- w' is w but for the blocks d and s. -/
structure Touch (d s : Nat) (w w' : World) : Prop where
  os : w'.os = w.os
  tape : w'.tape = w.tape
  output : w'.output = w.output
  size : w'.heap.size = w.heap.size
  block : ∀ k, k ≠ d → k ≠ s → w'.heap[k]? = w.heap[k]?

section
variable {d s : Nat} {w w' w'' : World}
theorem Touch.refl (d s : Nat) (w : World) : Touch d s w w := ⟨rfl, rfl, rfl, rfl, fun _ _ _ => rfl⟩
theorem Touch.drew (h : Touch d s w w') : Touch d s w w'.drew := ⟨h.os, h.tape, h.output, h.size, h.block⟩
theorem Touch.drewN (h : Touch d s w w') (n : Nat) : Touch d s w (w'.drewN n) := ⟨h.os, h.tape, h.output, h.size, h.block⟩
theorem Touch.set_d (h : Touch d s w w') (i : Nat) (u : Value) : Touch d s w (w'.setCell ⟨d, i, none⟩ u) :=
  ⟨h.os, h.tape, h.output, by simp [h.size], fun k h1 h2 => (Below.heap_setCell _ _ _ _ h1).trans (h.block k h1 h2)⟩
theorem Touch.set_s (h : Touch d s w w') (i : Nat) (u : Value) : Touch d s w (w'.setCell ⟨s, i, none⟩ u) :=
  ⟨h.os, h.tape, h.output, by simp [h.size], fun k h1 h2 => (Below.heap_setCell _ _ _ _ h2).trans (h.block k h1 h2)⟩
theorem Touch.trans (h : Touch d s w w') (h' : Touch d s w' w'') : Touch d s w w'' :=
  ⟨h'.os.trans h.os, h'.tape.trans h.tape, h'.output.trans h.output, h'.size.trans h.size, fun k h1 h2 => (h'.block k h1 h2).trans (h.block k h1 h2)⟩
theorem Blk.touch {g : Nat} {t : TypeId} {cs : Array Value} (h : Blk w g t cs) (hT : Touch d s w w') (h1 : g ≠ d) (h2 : g ≠ s) : Blk w' g t cs := (hT.block g h1 h2).trans h
theorem Touch.cell_far (h : Touch d s w w') {k : Nat} (h1 : k ≠ d) (h2 : k ≠ s) (i : Nat) : w'.cell? ⟨k, i, none⟩ = w.cell? ⟨k, i, none⟩ := World.cell?_of_block (h.block k h1 h2)
theorem Touch.below {B : Nat} (h : Touch d s w w') (h1 : B ≤ d) (h2 : B ≤ s) : Below B w w' :=
  ⟨h.os, h.tape, h.output, by rw [h.size]; exact Nat.le_refl _, fun k hk => h.block k (by omega) (by omega)⟩
end

theorem set121 (x : Array Value) (a b c : Value) : ((x.setIfInBounds 1 a).setIfInBounds 2 b).setIfInBounds 1 c = (x.setIfInBounds 1 c).setIfInBounds 2 b := by
  rw [Array.setIfInBounds_comm _ _ (by decide), Array.setIfInBounds_setIfInBounds]

theorem set122 (x : Array Value) (a b c : Value) : ((x.setIfInBounds 1 a).setIfInBounds 2 b).setIfInBounds 2 c = (x.setIfInBounds 1 a).setIfInBounds 2 c := by
  rw [Array.setIfInBounds_setIfInBounds]
theorem get_set (x : Array Value) (i : Nat) (a : Value) (h : i < x.size) : (x.setIfInBounds i a)[i]? = some a := by
  simp [h]
theorem get_ne (x : Array Value) (i j : Nat) (a : Value) (h : i ≠ j) : (x.setIfInBounds i a)[j]? = x[j]? := by
  simp [h]
theorem get12_1 (x : Array Value) (a b : Value) (h : 2 < x.size) : ((x.setIfInBounds 1 a).setIfInBounds 2 b)[1]? = some a := by
  rw [get_ne _ _ _ _ (by decide), get_set _ _ _ (by omega)]
theorem get12_2 (x : Array Value) (a b : Value) (h : 2 < x.size) : ((x.setIfInBounds 1 a).setIfInBounds 2 b)[2]? = some b := by
  rw [get_set _ _ _ (by simpa using h)]
theorem get12_o (x : Array Value) (a b : Value) (i : Nat) (h1 : 1 ≠ i) (h2 : 2 ≠ i) : ((x.setIfInBounds 1 a).setIfInBounds 2 b)[i]? = x[i]? := by
  rw [get_ne _ _ _ _ h2, get_ne _ _ _ _ h1]

end Go.Proofs.YtdleleaolfeahaaFmt
