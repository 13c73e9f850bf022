/- decode over the stream 80 10 60 20 (the greatest bits first, width 8): three rounds, one byte, the end. Conditions: the decoder is as NewReader lays it, its source the given reader over these four bytes; io.EOF holds a value that is not nil. -/
import Derived.Test.YtdleleaolfeahaaFmtMsb
namespace Go.Proofs.YtdleleaolfeahaaFmt
open Go.RowKit

/-- The decoder's cells, at width 9, for bytes of 8 bits, its source the given reader in block s. -/
structure Dec (c : Array Value) (s : Nat) (b n hi last o : Int) (err tr : Value) : Prop where
  size : c.size = 16398
  c0 : c[0]? = some (.iface 42 (.pointer (some ⟨s, 0, none⟩)))
  c1 : c[1]? = some (.int .u32 b)
  c2 : c[2]? = some (.int .u64 n)
  c3 : c[3]? = some (.int .u64 9)
  c4 : c[4]? = some (.func (.func 20) #[] #[])
  c5 : c[5]? = some (.int .i64 8)
  c6 : c[6]? = some err
  c7 : c[7]? = some (.int .u16 256)
  c8 : c[8]? = some (.int .u16 257)
  c9 : c[9]? = some (.int .u16 hi)
  c10 : c[10]? = some (.int .u16 512)
  c11 : c[11]? = some (.int .u16 last)
  co : c[16396]? = some (.int .i64 o)
  ct : c[16397]? = some tr

section
variable {c : Array Value} {s : Nat} {b n hi last o : Int} {err tr : Value}
theorem Dec.rd (h : Dec c s b n hi last o err tr) (B N : Int) : Dec ((c.setIfInBounds 1 (.int .u32 B)).setIfInBounds 2 (.int .u64 N)) s B N hi last o err tr := by
  have hs := h.size
  constructor
  · simp [hs]
  · rw [get_ne _ _ _ _ (by decide)]; rw [get_ne _ _ _ _ (by decide)]; exact h.c0
  · rw [get_ne _ _ _ _ (by decide)]; exact get_set _ _ _ (by simp [hs])
  · exact get_set _ _ _ (by simp [hs])
  · rw [get_ne _ _ _ _ (by decide)]; rw [get_ne _ _ _ _ (by decide)]; exact h.c3
  · rw [get_ne _ _ _ _ (by decide)]; rw [get_ne _ _ _ _ (by decide)]; exact h.c4
  · rw [get_ne _ _ _ _ (by decide)]; rw [get_ne _ _ _ _ (by decide)]; exact h.c5
  · rw [get_ne _ _ _ _ (by decide)]; rw [get_ne _ _ _ _ (by decide)]; exact h.c6
  · rw [get_ne _ _ _ _ (by decide)]; rw [get_ne _ _ _ _ (by decide)]; exact h.c7
  · rw [get_ne _ _ _ _ (by decide)]; rw [get_ne _ _ _ _ (by decide)]; exact h.c8
  · rw [get_ne _ _ _ _ (by decide)]; rw [get_ne _ _ _ _ (by decide)]; exact h.c9
  · rw [get_ne _ _ _ _ (by decide)]; rw [get_ne _ _ _ _ (by decide)]; exact h.c10
  · rw [get_ne _ _ _ _ (by decide)]; rw [get_ne _ _ _ _ (by decide)]; exact h.c11
  · rw [get_ne _ _ _ _ (by decide)]; rw [get_ne _ _ _ _ (by decide)]; exact h.co
  · rw [get_ne _ _ _ _ (by decide)]; rw [get_ne _ _ _ _ (by decide)]; exact h.ct
theorem Dec.clr (h : Dec c s b n hi last o err tr) : Dec ((((c.setIfInBounds 3 (.int .u64 9)).setIfInBounds 9 (.int .u16 257)).setIfInBounds 10 (.int .u16 512)).setIfInBounds 11 (.int .u16 65535)) s b n 257 65535 o err tr := by
  have hs := h.size
  constructor
  · simp [hs]
  · rw [get_ne _ _ _ _ (by decide)]; rw [get_ne _ _ _ _ (by decide)]; rw [get_ne _ _ _ _ (by decide)]; rw [get_ne _ _ _ _ (by decide)]; exact h.c0
  · rw [get_ne _ _ _ _ (by decide)]; rw [get_ne _ _ _ _ (by decide)]; rw [get_ne _ _ _ _ (by decide)]; rw [get_ne _ _ _ _ (by decide)]; exact h.c1
  · rw [get_ne _ _ _ _ (by decide)]; rw [get_ne _ _ _ _ (by decide)]; rw [get_ne _ _ _ _ (by decide)]; rw [get_ne _ _ _ _ (by decide)]; exact h.c2
  · rw [get_ne _ _ _ _ (by decide)]; rw [get_ne _ _ _ _ (by decide)]; rw [get_ne _ _ _ _ (by decide)]; exact get_set _ _ _ (by simp [hs])
  · rw [get_ne _ _ _ _ (by decide)]; rw [get_ne _ _ _ _ (by decide)]; rw [get_ne _ _ _ _ (by decide)]; rw [get_ne _ _ _ _ (by decide)]; exact h.c4
  · rw [get_ne _ _ _ _ (by decide)]; rw [get_ne _ _ _ _ (by decide)]; rw [get_ne _ _ _ _ (by decide)]; rw [get_ne _ _ _ _ (by decide)]; exact h.c5
  · rw [get_ne _ _ _ _ (by decide)]; rw [get_ne _ _ _ _ (by decide)]; rw [get_ne _ _ _ _ (by decide)]; rw [get_ne _ _ _ _ (by decide)]; exact h.c6
  · rw [get_ne _ _ _ _ (by decide)]; rw [get_ne _ _ _ _ (by decide)]; rw [get_ne _ _ _ _ (by decide)]; rw [get_ne _ _ _ _ (by decide)]; exact h.c7
  · rw [get_ne _ _ _ _ (by decide)]; rw [get_ne _ _ _ _ (by decide)]; rw [get_ne _ _ _ _ (by decide)]; rw [get_ne _ _ _ _ (by decide)]; exact h.c8
  · rw [get_ne _ _ _ _ (by decide)]; rw [get_ne _ _ _ _ (by decide)]; exact get_set _ _ _ (by simp [hs])
  · rw [get_ne _ _ _ _ (by decide)]; exact get_set _ _ _ (by simp [hs])
  · exact get_set _ _ _ (by simp [hs])
  · rw [get_ne _ _ _ _ (by decide)]; rw [get_ne _ _ _ _ (by decide)]; rw [get_ne _ _ _ _ (by decide)]; rw [get_ne _ _ _ _ (by decide)]; exact h.co
  · rw [get_ne _ _ _ _ (by decide)]; rw [get_ne _ _ _ _ (by decide)]; rw [get_ne _ _ _ _ (by decide)]; rw [get_ne _ _ _ _ (by decide)]; exact h.ct
theorem Dec.lit (h : Dec c s b n hi last o err tr) : Dec ((((c.setIfInBounds 8204 (.int .u8 65)).setIfInBounds 16396 (.int .i64 1)).setIfInBounds 11 (.int .u16 65)).setIfInBounds 9 (.int .u16 258)) s b n 258 65 1 err tr := by
  have hs := h.size
  constructor
  · simp [hs]
  · rw [get_ne _ _ _ _ (by decide)]; rw [get_ne _ _ _ _ (by decide)]; rw [get_ne _ _ _ _ (by decide)]; rw [get_ne _ _ _ _ (by decide)]; exact h.c0
  · rw [get_ne _ _ _ _ (by decide)]; rw [get_ne _ _ _ _ (by decide)]; rw [get_ne _ _ _ _ (by decide)]; rw [get_ne _ _ _ _ (by decide)]; exact h.c1
  · rw [get_ne _ _ _ _ (by decide)]; rw [get_ne _ _ _ _ (by decide)]; rw [get_ne _ _ _ _ (by decide)]; rw [get_ne _ _ _ _ (by decide)]; exact h.c2
  · rw [get_ne _ _ _ _ (by decide)]; rw [get_ne _ _ _ _ (by decide)]; rw [get_ne _ _ _ _ (by decide)]; rw [get_ne _ _ _ _ (by decide)]; exact h.c3
  · rw [get_ne _ _ _ _ (by decide)]; rw [get_ne _ _ _ _ (by decide)]; rw [get_ne _ _ _ _ (by decide)]; rw [get_ne _ _ _ _ (by decide)]; exact h.c4
  · rw [get_ne _ _ _ _ (by decide)]; rw [get_ne _ _ _ _ (by decide)]; rw [get_ne _ _ _ _ (by decide)]; rw [get_ne _ _ _ _ (by decide)]; exact h.c5
  · rw [get_ne _ _ _ _ (by decide)]; rw [get_ne _ _ _ _ (by decide)]; rw [get_ne _ _ _ _ (by decide)]; rw [get_ne _ _ _ _ (by decide)]; exact h.c6
  · rw [get_ne _ _ _ _ (by decide)]; rw [get_ne _ _ _ _ (by decide)]; rw [get_ne _ _ _ _ (by decide)]; rw [get_ne _ _ _ _ (by decide)]; exact h.c7
  · rw [get_ne _ _ _ _ (by decide)]; rw [get_ne _ _ _ _ (by decide)]; rw [get_ne _ _ _ _ (by decide)]; rw [get_ne _ _ _ _ (by decide)]; exact h.c8
  · exact get_set _ _ _ (by simp [hs])
  · rw [get_ne _ _ _ _ (by decide)]; rw [get_ne _ _ _ _ (by decide)]; rw [get_ne _ _ _ _ (by decide)]; rw [get_ne _ _ _ _ (by decide)]; exact h.c10
  · rw [get_ne _ _ _ _ (by decide)]; exact get_set _ _ _ (by simp [hs])
  · rw [get_ne _ _ _ _ (by decide)]; rw [get_ne _ _ _ _ (by decide)]; exact get_set _ _ _ (by simp [hs])
  · rw [get_ne _ _ _ _ (by decide)]; rw [get_ne _ _ _ _ (by decide)]; rw [get_ne _ _ _ _ (by decide)]; rw [get_ne _ _ _ _ (by decide)]; exact h.ct
theorem Dec.eof_ (h : Dec c s b n hi last o err tr) (E T : Value) : Dec (((c.setIfInBounds 6 (E)).setIfInBounds 16397 (T)).setIfInBounds 16396 (.int .i64 0)) s b n hi last 0 E T := by
  have hs := h.size
  constructor
  · simp [hs]
  · rw [get_ne _ _ _ _ (by decide)]; rw [get_ne _ _ _ _ (by decide)]; rw [get_ne _ _ _ _ (by decide)]; exact h.c0
  · rw [get_ne _ _ _ _ (by decide)]; rw [get_ne _ _ _ _ (by decide)]; rw [get_ne _ _ _ _ (by decide)]; exact h.c1
  · rw [get_ne _ _ _ _ (by decide)]; rw [get_ne _ _ _ _ (by decide)]; rw [get_ne _ _ _ _ (by decide)]; exact h.c2
  · rw [get_ne _ _ _ _ (by decide)]; rw [get_ne _ _ _ _ (by decide)]; rw [get_ne _ _ _ _ (by decide)]; exact h.c3
  · rw [get_ne _ _ _ _ (by decide)]; rw [get_ne _ _ _ _ (by decide)]; rw [get_ne _ _ _ _ (by decide)]; exact h.c4
  · rw [get_ne _ _ _ _ (by decide)]; rw [get_ne _ _ _ _ (by decide)]; rw [get_ne _ _ _ _ (by decide)]; exact h.c5
  · rw [get_ne _ _ _ _ (by decide)]; rw [get_ne _ _ _ _ (by decide)]; exact get_set _ _ _ (by simp [hs])
  · rw [get_ne _ _ _ _ (by decide)]; rw [get_ne _ _ _ _ (by decide)]; rw [get_ne _ _ _ _ (by decide)]; exact h.c7
  · rw [get_ne _ _ _ _ (by decide)]; rw [get_ne _ _ _ _ (by decide)]; rw [get_ne _ _ _ _ (by decide)]; exact h.c8
  · rw [get_ne _ _ _ _ (by decide)]; rw [get_ne _ _ _ _ (by decide)]; rw [get_ne _ _ _ _ (by decide)]; exact h.c9
  · rw [get_ne _ _ _ _ (by decide)]; rw [get_ne _ _ _ _ (by decide)]; rw [get_ne _ _ _ _ (by decide)]; exact h.c10
  · rw [get_ne _ _ _ _ (by decide)]; rw [get_ne _ _ _ _ (by decide)]; rw [get_ne _ _ _ _ (by decide)]; exact h.c11
  · exact get_set _ _ _ (by simp [hs])
  · rw [get_ne _ _ _ _ (by decide)]; exact get_set _ _ _ (by simp [hs])
theorem Dec.slot (h : Dec c s b n hi last o err tr) (i : Nat) (hi : i < 16398) : ∃ x, c[i]? = some x := by
  have := h.size
  exact ⟨c[i]'(by omega), Array.getElem?_eq_getElem (by omega)⟩
end

/-- What decode leaves. -/
def Decoded (d s t : Nat) (eofv : Value) (w w' : World) : Prop :=
  ∃ c, Blk w' d 69 c ∧ Dec c s 0 5 258 65 0 eofv (.slice (some ⟨d, 8204, none⟩) 1 8192) ∧ c[8204]? = some (.int .u8 65) ∧ Blk w' s 44 #[.slice (some ⟨t, 3, none⟩) 0 0] ∧ Touch d s w w'

set_option maxRecDepth 100000 in
set_option maxHeartbeats 8000000 in
theorem decode_all (d s t : Nat) (c : Array Value) (ea : Addr) (w : World) (hd : Blk w d 69 c) (hs : Blk w s 44 #[.slice (some ⟨t, 0, none⟩) 4 4]) (ht : Blk w t 5 #[.int .u8 128, .int .u8 16, .int .u8 96, .int .u8 32])
    (D0 : Dec c s 0 0 257 65535 0 .nilIface (.slice none 0 0)) (hE : w.cell? ⟨0, 0, none⟩ = some (.iface 78 (.pointer (some ea)))) (hd0 : 0 < d) (hs0 : 0 < s) :
    Calls Tryf.prog 47 #[.pointer (some ⟨d, 0, none⟩)] w fun e w' => e = .returned (.tuple #[]) ∧ Decoded d s t (.iface 78 (.pointer (some ea))) w w' := by
  have hds : d ≠ s := hd.ne_ hs (by decide)
  have hdt : d ≠ t := hd.ne_ ht (by decide)
  have hst : s ≠ t := hs.ne_ ht (by decide)
  have e4 := (hd.cell 4).trans D0.c4
  go_enter Tryf.func47, Tryf.ntmps47
  go_wp2_with fail
  go_step3
  go_wp2_with fail
  go_step3
  go_wp2_with fail
  refine wp_loop_rounds 3 ?_
  rw [rounds_succ]
  go_wp2_with fail
  refine (readMSB_1 d s t c _ hd hs ht D0.c0 D0.c1 D0.c2 D0.c3 (by rw [D0.size]; decide)).mono ?_
  rintro e W1 ⟨rfl, hd1, hs1, hT1⟩
  have D1 := D0.rd 536870912 7
  generalize ((c.setIfInBounds 1 (.int .u32 536870912)).setIfInBounds 2 (.int .u64 7)) = c1 at hd1 D1
  have e3 := (hd1.cell 3).trans D1.c3
  have e5 := (hd1.cell 5).trans D1.c5
  have e7 := (hd1.cell 7).trans D1.c7
  have e8 := (hd1.cell 8).trans D1.c8
  have e9 := (hd1.cell 9).trans D1.c9
  have e10 := (hd1.cell 10).trans D1.c10
  have e11 := (hd1.cell 11).trans D1.c11
  have f3 := hd1.frozen 3
  have f9 := hd1.frozen 9
  have f10 := hd1.frozen 10
  have f11 := hd1.frozen 11
  clear e4
  go_wp2_with fail
  generalize hW : World.setCell _ _ _ = W2
  have hT2 : Touch d s w W2 := by rw [← hW]; repeat (first | with_reducible exact hT1 | with_reducible refine Touch.drew ?_ | with_reducible refine Touch.drewN ?_ _ | with_reducible refine Touch.set_d ?_ _ _ | with_reducible refine Touch.set_s ?_ _ _)
  have hd2 : Blk W2 d 69 ((((c1.setIfInBounds 3 (.int .u64 9)).setIfInBounds 9 (.int .u16 257)).setIfInBounds 10 (.int .u16 512)).setIfInBounds 11 (.int .u16 65535)) := by rw [← hW]; repeat (first | with_reducible exact hd1 | with_reducible refine Blk.drew ?_ | with_reducible refine Blk.drewN ?_ _ | with_reducible refine Blk.set_ ?_ _ _ | with_reducible refine Blk.far ?_ hds _)
  have hs2 : Blk W2 s 44 #[.slice (some ⟨t, 2, none⟩) 2 2] := by rw [← hW]; repeat (first | with_reducible exact hs1 | with_reducible refine Blk.drew ?_ | with_reducible refine Blk.drewN ?_ _ | with_reducible refine Blk.set_ ?_ _ _ | with_reducible refine Blk.far ?_ (Ne.symm hds) _)
  have ht2 := ht.touch hT2 (Ne.symm hdt) (Ne.symm hst)
  have D2 := D1.clr
  generalize ((((c1.setIfInBounds 3 (.int .u64 9)).setIfInBounds 9 (.int .u16 257)).setIfInBounds 10 (.int .u16 512)).setIfInBounds 11 (.int .u16 65535)) = c2 at hd2 D2
  clear hW hd1 hs1 D1 hT1 e3 e5 e7 e8 e9 e10 e11 f3 f9 f10 f11
  have e4 := (hd2.cell 4).trans D2.c4
  rw [rounds_succ]
  go_wp2_with fail
  refine (readMSB_2 d s t c2 _ hd2 hs2 ht2 D2.c0 D2.c1 D2.c2 D2.c3).mono ?_
  rintro e W3 ⟨rfl, hd3, hs3, hT3⟩
  have D3 := D2.rd 2147483648 6
  generalize ((c2.setIfInBounds 1 (.int .u32 2147483648)).setIfInBounds 2 (.int .u64 6)) = c3 at hd3 D3
  have hT3 := hT2.trans hT3
  obtain ⟨x0, hx0⟩ := D3.slot 8204 (by decide)
  clear e4
  have e3 := (hd3.cell 3).trans D3.c3
  have e7 := (hd3.cell 7).trans D3.c7
  have e8 := (hd3.cell 8).trans D3.c8
  have e9 := (hd3.cell 9).trans D3.c9
  have e10 := (hd3.cell 10).trans D3.c10
  have e11 := (hd3.cell 11).trans D3.c11
  have f8204 := hd3.frozen 8204
  have f11 := hd3.frozen 11
  have f9 := hd3.frozen 9
  have f16396 := hd3.frozen 16396
  have e8204 := (hd3.cell 8204).trans hx0
  have e16396 := (hd3.cell 16396).trans D3.co
  clear hx0
  go_wp2_with fail
  go_region
  go_wp2_with fail
  go_quiet (fail)
  go_wp2_with fail
  generalize hW : World.drewN _ _ = W4
  have hT4 : Touch d s w W4 := by rw [← hW]; repeat (first | with_reducible exact hT3 | with_reducible refine Touch.drew ?_ | with_reducible refine Touch.drewN ?_ _ | with_reducible refine Touch.set_d ?_ _ _ | with_reducible refine Touch.set_s ?_ _ _)
  have hd4 : Blk W4 d 69 ((((c3.setIfInBounds 8204 (.int .u8 65)).setIfInBounds 16396 (.int .i64 1)).setIfInBounds 11 (.int .u16 65)).setIfInBounds 9 (.int .u16 258)) := by rw [← hW]; repeat (first | with_reducible exact hd3 | with_reducible refine Blk.drew ?_ | with_reducible refine Blk.drewN ?_ _ | with_reducible refine Blk.set_ ?_ _ _ | with_reducible refine Blk.far ?_ hds _)
  have hs4 : Blk W4 s 44 #[.slice (some ⟨t, 3, none⟩) 1 1] := by rw [← hW]; repeat (first | with_reducible exact hs3 | with_reducible refine Blk.drew ?_ | with_reducible refine Blk.drewN ?_ _ | with_reducible refine Blk.set_ ?_ _ _ | with_reducible refine Blk.far ?_ (Ne.symm hds) _)
  have ht4 := ht.touch hT4 (Ne.symm hdt) (Ne.symm hst)
  have D4 := D3.lit
  have hx4 : ((((c3.setIfInBounds 8204 (.int .u8 65)).setIfInBounds 16396 (.int .i64 1)).setIfInBounds 11 (.int .u16 65)).setIfInBounds 9 (.int .u16 258))[8204]? = some (.int .u8 65) := by
    rw [get_ne _ _ _ _ (by decide), get_ne _ _ _ _ (by decide), get_ne _ _ _ _ (by decide), get_set _ _ _ (by rw [D3.size]; decide)]
  generalize ((((c3.setIfInBounds 8204 (.int .u8 65)).setIfInBounds 16396 (.int .i64 1)).setIfInBounds 11 (.int .u16 65)).setIfInBounds 9 (.int .u16 258)) = c4 at hd4 D4 hx4
  clear hW hd3 hs3 D3 hT3 e3 e7 e8 e9 e10 e11 e8204 e16396 f8204 f11 f9 f16396
  have e4 := (hd4.cell 4).trans D4.c4
  rw [rounds_succ]
  go_wp2_with fail
  refine (readMSB_3 d s t c4 _ hd4 hs4 ht4 D4.c0 D4.c1 D4.c2 D4.c3).mono ?_
  rintro e W5 ⟨rfl, hd5, hs5, hT5⟩
  have hx := (get12_o c4 (.int .u32 0) (.int .u64 5) 8204 (by decide) (by decide)).trans hx4
  have D5 := D4.rd 0 5
  generalize ((c4.setIfInBounds 1 (.int .u32 0)).setIfInBounds 2 (.int .u64 5)) = c5 at hd5 D5 hx
  have hT5 := hT4.trans hT5
  clear e4
  have e6 := (hd5.cell 6).trans D5.c6
  have e7 := (hd5.cell 7).trans D5.c7
  have e8 := (hd5.cell 8).trans D5.c8
  have f6 := hd5.frozen 6
  have f16397 := hd5.frozen 16397
  have f16396 := hd5.frozen 16396
  have e16396 := (hd5.cell 16396).trans D5.co
  have e16397 := (hd5.cell 16397).trans D5.ct
  have eE := (hT5.cell_far (k := 0) (by omega) (by omega) 0).trans hE
  go_wp2_with fail
  go_region
  go_wp2_with fail
  rw [Exit.noGoto_normal]
  go_end0
  exact ⟨rfl, _, (((hd5.set_ 6 _).set_ 16397 _).set_ 16396 _).drew, D5.eof_ _ _, by rw [get_ne _ _ _ _ (by decide), get_ne _ _ _ _ (by decide), get_ne _ _ _ _ (by decide)]; exact hx, (((hs5.far (p := ⟨d, 6, none⟩) (Ne.symm hds) _).far (p := ⟨d, 16397, none⟩) (Ne.symm hds) _).far (p := ⟨d, 16396, none⟩) (Ne.symm hds) _).drew, (((hT5.set_d _ _).set_d _ _).set_d _ _).drew⟩
end Go.Proofs.YtdleleaolfeahaaFmt

