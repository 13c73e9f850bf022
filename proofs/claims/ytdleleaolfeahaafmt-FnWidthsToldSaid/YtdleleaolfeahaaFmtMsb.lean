/- readMSB at the three states that the stream 80 10 60 20 brings, at width 9: the codes 256, 65, 257. Conditions: the decoder's cells are as the stream brings them; its source is the given reader over these four bytes. -/
import Derived.Test.YtdleleaolfeahaaFmtRows
import Derived.Test.YtdleleaolfeahaaFmtMem
import Derived.WalkKit
import Derived.WalkSpells
import Derived.WalkLawsBesides
import Derived.Deep.QuietTactic
import Derived.Deep.RegionWith
import Derived.BigQuiet
import Derived.BigRegion
import Derived.Handy
namespace Go.Proofs.YtdleleaolfeahaaFmt
open Go.RowKit

/-- What readMSB leaves: bits and count in the decoder, what is left in the source, nothing else. -/
structure Rd (w w' : World) (d s : Nat) (c : Array Value) (bits nb : Int) (left : Value) : Prop where
  dec : Blk w' d 69 ((c.setIfInBounds 1 (.int .u32 bits)).setIfInBounds 2 (.int .u64 nb))
  src : Blk w' s 44 #[left]
  touch : Touch d s w w'

theorem rd_one {w : World} {d s : Nat} {c : Array Value} {l0 : Value} (hd : Blk w d 69 c) (hs : Blk w s 44 #[l0]) (hds : d ≠ s) (k1 k2 : Nat) (l : Value) (B N B' N' : Int) :
    Rd w (((((((w.drewN k1).setCell ⟨s, 0, none⟩ l).setCell ⟨d, 1, none⟩ (.int .u32 B)).setCell ⟨d, 2, none⟩ (.int .u64 N)).drewN k2).setCell ⟨d, 1, none⟩ (.int .u32 B')).setCell ⟨d, 2, none⟩ (.int .u64 N')).drew d s c B' N' l := by
  refine ⟨?_, ?_, ?_⟩
  · have h := (((((((hd.drewN k1).far (p := ⟨s, 0, none⟩) hds l).set_ 1 (.int .u32 B)).set_ 2 (.int .u64 N)).drewN k2).set_ 1 (.int .u32 B')).set_ 2 (.int .u64 N')).drew
    exact h.eq (by rw [set121, set122])
  · exact (((((((hs.drewN k1).set_ 0 l).far (p := ⟨d, 1, none⟩) (Ne.symm hds) _).far (p := ⟨d, 2, none⟩) (Ne.symm hds) _).drewN k2).far (p := ⟨d, 1, none⟩) (Ne.symm hds) _).far (p := ⟨d, 2, none⟩) (Ne.symm hds) _).drew
  · exact ((((((((Touch.refl d s w).drewN k1).set_s _ _).set_d _ _).set_d _ _).drewN k2).set_d _ _).set_d _ _).drew

theorem Rd.after {w W w' : World} {d s : Nat} {c : Array Value} {x y : Value} {B N : Int} {l : Value} (h : Rd W w' d s ((c.setIfInBounds 1 x).setIfInBounds 2 y) B N l) (hT : Touch d s w W) : Rd w w' d s c B N l :=
  ⟨h.dec.eq (by rw [set121, set122]), h.src, hT.trans h.touch⟩

set_option maxHeartbeats 4000000 in
theorem readMSB_1 (d s t : Nat) (c : Array Value) (w : World) (hd : Blk w d 69 c) (hs : Blk w s 44 #[.slice (some ⟨t, 0, none⟩) 4 4]) (ht : Blk w t 5 #[.int .u8 128, .int .u8 16, .int .u8 96, .int .u8 32])
    (c0 : c[0]? = some (.iface 42 (.pointer (some ⟨s, 0, none⟩)))) (c1 : c[1]? = some (.int .u32 0)) (c2 : c[2]? = some (.int .u64 0)) (c3 : c[3]? = some (.int .u64 9)) (hsz : 2 < c.size) :
    Calls Tryf.prog 20 #[.pointer (some ⟨d, 0, none⟩)] w fun e w' => e = .returned (.tuple #[.int .u16 256, .nilIface]) ∧ Rd w w' d s c 536870912 7 (.slice (some ⟨t, 2, none⟩) 2 2) := by
  have hds : d ≠ s := hd.ne_ hs (by decide)
  have hdt : d ≠ t := hd.ne_ ht (by decide)
  have hst : s ≠ t := hs.ne_ ht (by decide)
  have b0 : bits BinOp.or IntKind.u32 0 2147483648 = 2147483648 := by decide
  have b1 : bits BinOp.or IntKind.u32 2147483648 1048576 = 2148532224 := by decide
  have f1 := hd.frozen 1
  have f2 := hd.frozen 2
  have f3 := hs.frozen 0
  have e0 := (hd.cell 0).trans c0
  have e1 := (hd.cell 1).trans c1
  have e2 := (hd.cell 2).trans c2
  have e3 := (hd.cell 3).trans c3
  have e4 := hs.cell 0
  have e5 := ht.cell 0
  simp at e4 e5
  go_enter Tryf.func20, Tryf.ntmps20
  go_wp2
  refine wp_loop_rounds 3 ?_
  rw [rounds_succ]
  go_wp2_with fail
  go_quiet (fail)
  go_wp2
  go_region
  go_wp2
  generalize hW : World.drew _ = W
  have hT : Touch d s w W := by rw [← hW]; repeat (first | exact Touch.refl _ _ _ | exact Touch.refl _ _ _ | with_reducible refine Touch.drew ?_ | with_reducible refine Touch.drewN ?_ _ | with_reducible refine Touch.set_d ?_ _ _ | with_reducible refine Touch.set_s ?_ _ _)
  have hd1 : Blk W d 69 ((c.setIfInBounds 1 (.int .u32 2147483648)).setIfInBounds 2 (.int .u64 8)) := by rw [← hW]; repeat (first | exact hd | with_reducible refine Blk.drew ?_ | with_reducible refine Blk.drewN ?_ _ | with_reducible refine Blk.set_ ?_ _ _ | with_reducible refine Blk.far ?_ (by first | exact hds | exact Ne.symm hds) _)
  have hs1 : Blk W s 44 #[.slice (some ⟨t, 1, none⟩) 3 3] := by rw [← hW]; have h := hs.set_ 0 (.slice (some ⟨t, 1, none⟩) 3 3); repeat (first | exact h | with_reducible refine Blk.drew ?_ | with_reducible refine Blk.drewN ?_ _ | with_reducible refine Blk.set_ ?_ _ _ | with_reducible refine Blk.far ?_ (by first | exact hds | exact Ne.symm hds) _)
  have ht1 := ht.touch hT (Ne.symm hdt) (Ne.symm hst)
  clear hW hd hs ht f1 f2 f3 e0 e1 e2 e3 e4 e5
  have f1 := hd1.frozen 1
  have f2 := hd1.frozen 2
  have f3 := hs1.frozen 0
  have e0 := (hd1.cell 0).trans ((get12_o _ _ _ 0 (by decide) (by decide)).trans c0)
  have e1 := (hd1.cell 1).trans (get12_1 _ _ _ hsz)
  have e2 := (hd1.cell 2).trans (get12_2 _ _ _ hsz)
  have e3 := (hd1.cell 3).trans ((get12_o _ _ _ 3 (by decide) (by decide)).trans c3)
  have e4 := hs1.cell 0
  have e5 := ht1.cell 1
  simp at e4 e5
  rw [rounds_succ]
  go_wp2_with fail
  go_quiet (fail)
  go_wp2
  go_region
  go_wp2
  rw [rounds_succ]
  go_wp2_with fail
  go_quiet (fail)
  go_wp2
  go_quiet (fail)
  go_wp2
  go_region
  go_wp2
  go_region
  go_wp2
  go_ret2
  exact ⟨rfl, (rd_one hd1 hs1 hds _ _ _ _ _ _ _).after hT⟩

set_option maxHeartbeats 4000000 in
theorem readMSB_2 (d s t : Nat) (c : Array Value) (w : World) (hd : Blk w d 69 c) (hs : Blk w s 44 #[.slice (some ⟨t, 2, none⟩) 2 2]) (ht : Blk w t 5 #[.int .u8 128, .int .u8 16, .int .u8 96, .int .u8 32])
    (c0 : c[0]? = some (.iface 42 (.pointer (some ⟨s, 0, none⟩)))) (c1 : c[1]? = some (.int .u32 536870912)) (c2 : c[2]? = some (.int .u64 7)) (c3 : c[3]? = some (.int .u64 9)) :
    Calls Tryf.prog 20 #[.pointer (some ⟨d, 0, none⟩)] w fun e w' => e = .returned (.tuple #[.int .u16 65, .nilIface]) ∧ Rd w w' d s c 2147483648 6 (.slice (some ⟨t, 3, none⟩) 1 1) := by
  have hds : d ≠ s := hd.ne_ hs (by decide)
  have hdt : d ≠ t := hd.ne_ ht (by decide)
  have hst : s ≠ t := hs.ne_ ht (by decide)
  have b0 : bits BinOp.or IntKind.u32 536870912 12582912 = 549453824 := by decide
  have f1 := hd.frozen 1
  have f2 := hd.frozen 2
  have f3 := hs.frozen 0
  have e0 := (hd.cell 0).trans c0
  have e1 := (hd.cell 1).trans c1
  have e2 := (hd.cell 2).trans c2
  have e3 := (hd.cell 3).trans c3
  have e4 := hs.cell 0
  have e5 := ht.cell 2
  simp at e4 e5
  go_enter Tryf.func20, Tryf.ntmps20
  go_wp2
  refine wp_loop_rounds 2 ?_
  rw [rounds_succ]
  go_wp2_with fail
  go_quiet (fail)
  go_wp2
  go_region
  go_wp2
  rw [rounds_succ]
  go_wp2_with fail
  go_quiet (fail)
  go_wp2
  go_quiet (fail)
  go_wp2
  go_region
  go_wp2
  go_region
  go_wp2
  go_ret2
  exact ⟨rfl, rd_one hd hs hds _ _ _ _ _ _ _⟩

set_option maxHeartbeats 4000000 in
theorem readMSB_3 (d s t : Nat) (c : Array Value) (w : World) (hd : Blk w d 69 c) (hs : Blk w s 44 #[.slice (some ⟨t, 3, none⟩) 1 1]) (ht : Blk w t 5 #[.int .u8 128, .int .u8 16, .int .u8 96, .int .u8 32])
    (c0 : c[0]? = some (.iface 42 (.pointer (some ⟨s, 0, none⟩)))) (c1 : c[1]? = some (.int .u32 2147483648)) (c2 : c[2]? = some (.int .u64 6)) (c3 : c[3]? = some (.int .u64 9)) :
    Calls Tryf.prog 20 #[.pointer (some ⟨d, 0, none⟩)] w fun e w' => e = .returned (.tuple #[.int .u16 257, .nilIface]) ∧ Rd w w' d s c 0 5 (.slice (some ⟨t, 3, none⟩) 0 0) := by
  have hds : d ≠ s := hd.ne_ hs (by decide)
  have hdt : d ≠ t := hd.ne_ ht (by decide)
  have hst : s ≠ t := hs.ne_ ht (by decide)
  have b0 : bits BinOp.or IntKind.u32 2147483648 8388608 = 2155872256 := by decide
  have f1 := hd.frozen 1
  have f2 := hd.frozen 2
  have f3 := hs.frozen 0
  have e0 := (hd.cell 0).trans c0
  have e1 := (hd.cell 1).trans c1
  have e2 := (hd.cell 2).trans c2
  have e3 := (hd.cell 3).trans c3
  have e4 := hs.cell 0
  have e5 := ht.cell 3
  simp at e4 e5
  go_enter Tryf.func20, Tryf.ntmps20
  go_wp2
  refine wp_loop_rounds 2 ?_
  rw [rounds_succ]
  go_wp2_with fail
  go_quiet (fail)
  go_wp2
  go_region
  go_wp2
  rw [rounds_succ]
  go_wp2_with fail
  go_quiet (fail)
  go_wp2
  go_quiet (fail)
  go_wp2
  go_region
  go_wp2
  go_region
  go_wp2
  go_ret2
  exact ⟨rfl, rd_one hd hs hds _ _ _ _ _ _ _⟩
end Go.Proofs.YtdleleaolfeahaaFmt

