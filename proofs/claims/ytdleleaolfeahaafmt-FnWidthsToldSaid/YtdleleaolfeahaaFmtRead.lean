/- (*decoder).Read: at an end or a failure with nothing left to give; and the first Read over the stream 80 10 60 20. Conditions: the decoder's and the buffer's cells as they are laid. -/
import Derived.Test.YtdleleaolfeahaaFmtDec
namespace Go.Proofs.YtdleleaolfeahaaFmt
open Go.RowKit

/-- What the first Read leaves: the byte in the buffer, the decoder at its end. -/
def FirstRead (d s t u : Nat) (eofv : Value) (w w' : World) : Prop :=
  ∃ c cs a n, Blk w' d 69 c ∧ c[6]? = some eofv ∧ c[16397]? = some (.slice a 0 n) ∧ Blk w' u 5 cs ∧ cs[0]? = some (.int .u8 65) ∧ Blk w' s 44 #[.slice (some ⟨t, 3, none⟩) 0 0] ∧
    ∀ B, B ≤ d → B ≤ s → B ≤ u → Below B w w'

theorem Tryf.size5 : (Tryf.prog.info? 5).map (·.size) = some 1 := by kernel_rfl

/-- A decoder that has failed or ended, with nothing left to give: Read gives nothing, and the error. -/
theorem read_err (d ty : Nat) (c : Array Value) (b v : Value) (a : Option Addr) (n : Nat) (w : World) (hd : Blk w d 69 c) (c6 : c[6]? = some (.iface ty v)) (ct : c[16397]? = some (.slice a 0 n)) :
    Calls Tryf.prog 46 #[.pointer (some ⟨d, 0, none⟩), b] w fun e w' => e = .returned (.tuple #[.int .i64 0, .iface ty v]) ∧ ∃ m, w' = w.drewN m := by
  have e6 := (hd.cell 6).trans c6
  have et := (hd.cell 16397).trans ct
  go_enter Tryf.func46, Tryf.ntmps46
  go_wp2_with fail
  refine wp_loop_rounds 1 ?_
  rw [rounds_succ]
  go_wp2_with fail
  go_quiet (fail)
  go_wp2_with fail
  go_ret2
  exact ⟨rfl, _, rfl⟩

set_option maxHeartbeats 4000000 in
theorem read_first (d s t u : Nat) (c cs : Array Value) (ea : Addr) (w : World) (hd : Blk w d 69 c) (hs : Blk w s 44 #[.slice (some ⟨t, 0, none⟩) 4 4]) (ht : Blk w t 5 #[.int .u8 128, .int .u8 16, .int .u8 96, .int .u8 32])
    (hu : Blk w u 5 cs) (hus : cs.size = 512) (hdu : d < u) (hsu : s < u)
    (D0 : Dec c s 0 0 257 65535 0 .nilIface (.slice none 0 0)) (hE : w.cell? ⟨0, 0, none⟩ = some (.iface 78 (.pointer (some ea)))) (hd0 : 0 < d) (hs0 : 0 < s) :
    Calls Tryf.prog 46 #[.pointer (some ⟨d, 0, none⟩), .slice (some ⟨u, 0, none⟩) 512 512] w fun e w' => e = .returned (.tuple #[.int .i64 1, .nilIface]) ∧ FirstRead d s t u (.iface 78 (.pointer (some ea))) w w' := by
  have e6 := (hd.cell 6).trans D0.c6
  have et := (hd.cell 16397).trans D0.ct
  go_enter Tryf.func46, Tryf.ntmps46
  go_wp2_with fail
  refine wp_loop_rounds 2 ?_
  rw [rounds_succ]
  go_wp2_with fail
  refine (decode_all d s t c ea _ hd hs ht D0 hE hd0 hs0).mono ?_
  rintro e W1 ⟨rfl, c1, hd1, D1, hx1, hs1, hT1⟩
  have e16397 := (hd1.cell 16397).trans D1.ct
  have f16397 := hd1.frozen 16397
  have hu1 := hu.touch hT1 (by omega) (by omega)
  have hg : Hid (W1.heap[u]? = some (.cells cs.toList.toArray 5 (0, 0))) := by
    show W1.heap[u]? = _
    rw [Array.toArray_toList]
    exact hu1
  have hsrc : Hid (∀ j v, [Value.int .u8 65][j]? = some v → W1.cell? ((⟨d, 8204, none⟩ : Addr).add j) = some v) := by
    intro j v hj
    match j, hj with
    | 0, hj =>
      simp at hj
      subst hj
      exact (hd1.cell 8204).trans hx1
  clear e6 et
  go_wp2_with fail
  rw [rounds_succ]
  go_wp2_with (with_reducible refine wpList_copy_splice rfl (.tmp 13) (.tmp 17) 22 22 rfl 5 Tryf.underlying22 Tryf.size5 _ _ 512 512 1 8192 rfl rfl u 0 cs.toList 5 hg.out [.int .u8 65] rfl (fun _ => ⟨rfl, _, rfl, hsrc.out⟩) (by simp [hus]) (by simp [Value.oneCell']) u W1 (Below.refl _ _) (Nat.le_refl _) ?_; intro w2 HG2 hB2; have hd2 := hd1.below hB2 hdu; have g16397 := (hd2.cell 16397).trans D1.ct; have k16397 := hd2.frozen 16397)
  go_ret2
  refine ⟨rfl, _, _, _, _, hd2.set_ 16397 _, by rw [get_ne _ _ _ _ (by decide)]; exact D1.c6, get_set _ _ _ (by rw [D1.size]; decide), Blk.far (show Blk w2 u 5 _ from HG2.out) (by show u ≠ d; omega) _, by simp [splice], Blk.far (hs1.below hB2 hsu) (hd.ne_ hs (by decide)).symm _, fun B h1 h2 h3 => ?_⟩
  exact ((hT1.below h1 h2).trans (hB2.mono h3)).setCell h1 _
end Go.Proofs.YtdleleaolfeahaaFmt
