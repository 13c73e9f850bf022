/- impl.all: over a reader that failed when it was made: nothing, and not the end; over the stream 80 10 60 20: the byte 65, and the end. Conditions: the readers' cells are as NewReader lays them; io.EOF holds an error of errors.New's make. -/
import Derived.Test.YtdleleaolfeahaaFmtNew
import Derived.Test.YtdleleaolfeahaaFmtRead
import Derived.LaidEql
namespace Go.Proofs.YtdleleaolfeahaaFmt
open Go.RowKit

theorem below_dn {B : Nat} {w w' : World} (h : Below B w w') (n : Nat) : Below B w (w'.drewN n) := ⟨h.os, h.tape, h.output, h.size, h.block⟩

theorem ownsRow_mono {w : World} {b b' : Nat} {e : TypeId} {size n : Nat} {v : Value} {xs : List Value} (h : w.ownsRow b e size v n xs) (hb : b' ≤ b) : w.ownsRow b' e size v n xs :=
  ⟨h.1, h.2.imp id fun ⟨g, cap, cur, hv, hg, rest⟩ => ⟨g, cap, cur, hv, Nat.le_trans hb hg, rest⟩⟩

def zbuf : Array Value := madeCells #[.int .u8 0] 512
theorem info5 : (Tryf.prog.info? 5).map (fun i => (i.zero, i.size, i.bytes)) = some (some (.int .u8 0), 1, 1) := by kernel_rfl
theorem mk512 (w : World) : (Instr.makeSlice 22 (.int .i64 512) (.int .i64 512)).run Tryf.prog w = .ok (.slice (some ⟨w.heap.size, 0, none⟩) 512 512) (w.alloc (.cells zbuf 5)) := by
  obtain ⟨i, hi, hx⟩ := opt_map info5
  simp only [Prod.mk.injEq] at hx
  obtain ⟨hz0, hz1, hz2⟩ := hx
  have h := run_make (P := Tryf.prog) w 22 5 i (.int .u8 0) Tryf.underlying22 hi hz0 .i64 .i64 512 512 (by decide) (by decide) (by rw [hz2]; decide) (by decide)
  rw [h, hz1]
  rfl
theorem zbuf_size : zbuf.size = 512 := by simp [zbuf, madeCells]
theorem info78 : (Tryf.prog.info? 78).map (fun i => i.comparable) = some true := by kernel_rfl
theorem info80 : (Tryf.prog.info? 80).map (fun i => i.size) = some 1 := by kernel_rfl

/-- Two errors of errors.New's make at different places are not equal. -/
theorem eql_other (a b : Addr) (ca cb : Array Value) (ta tb : TypeId) (w : World) (hne : a ≠ b) (ha : w.heap[a.block]? = some (.cells ca ta (0, 0))) (hb : w.heap[b.block]? = some (.cells cb tb (0, 0))) :
    (binOp .eql 48 (.iface 78 (.pointer (some a))) (.iface 78 (.pointer (some b)))).run Tryf.prog w = .ok (.bool false) w := by
  obtain ⟨i, hi, hc⟩ := opt_map info78
  obtain ⟨j, hj, hs⟩ := opt_map info80
  exact run_eql_iface_ptr_other w Tryf.underlying48 Tryf.underlying78 hi hc hj (by omega) hne ha hb
theorem eql_same (a : Addr) (w : World) : (binOp .eql 48 (.iface 78 (.pointer (some a))) (.iface 78 (.pointer (some a)))).run Tryf.prog w = .ok (.bool true) w := by
  obtain ⟨i, hi, hc⟩ := opt_map info78
  obtain ⟨j, hj, hs⟩ := opt_map info80
  exact run_eql_iface_ptr_same w a Tryf.underlying48 Tryf.underlying78 hi hc hj

set_option maxHeartbeats 4000000 in
theorem all_bad (d k : Nat) (c cE ck : Array Value) (tE tk : TypeId) (ea : Addr) (w : World) (hd : Blk w d 69 c) (c6 : c[6]? = some (.iface 78 (.pointer (some ⟨k, 0, none⟩)))) (ct : c[16397]? = some (.slice none 0 0))
    (hE : w.cell? ⟨0, 0, none⟩ = some (.iface 78 (.pointer (some ea)))) (hEa : w.heap[ea.block]? = some (.cells cE tE (0, 0))) (hk : Blk w k tk ck) (hne : (⟨k, 0, none⟩ : Addr) ≠ ea) :
    Calls Tryf.prog 18 #[.iface 58 (.pointer (some ⟨d, 0, none⟩))] w fun e w' => e = .returned (.tuple #[.slice none 0 0, .bool false]) ∧ Below w.heap.size w w' := by
  have hmk := mk512
  obtain ⟨i5, hi5, hx5⟩ := opt_map info5
  simp only [Prod.mk.injEq] at hx5
  obtain ⟨hz0, hz1, hz2⟩ := hx5
  have H1 : Hid (i5.zero = some (.int .u8 0)) := hz0
  have H2 : Hid (i5.size = 1) := hz1
  have H3 : Hid (i5.bytes = 1) := hz2
  clear hz0 hz1 hz2
  go_enter Tryf.func18, Tryf.ntmps18
  go_wp2_with fail
  refine wp_loop_rounds 1 ?_
  rw [rounds_succ]
  go_wp2_with fail
  refine (read_err d 78 c _ _ none 0 _ (hd.alloc _) c6 ct).mono ?_
  rintro e W0 ⟨rfl, m, rfl⟩
  obtain ⟨W, hW⟩ : ∃ W, W = (w.alloc (.cells zbuf 5)).drewN m := ⟨_, rfl⟩
  have hbel : Below w.heap.size w W := by rw [hW]; exact below_dn ((Below.refl _ _).alloc (Nat.le_refl _) _) m
  have hsz : w.heap.size ≤ W.heap.size := hbel.size
  rw [← hW]
  clear hW hmk
  have hlt0 : 0 < w.heap.size := World.block_lt_of_cell? w _ hE
  have hlt1 : ea.block < w.heap.size := by
    apply Decidable.byContradiction
    intro hn
    rw [Array.getElem?_eq_none (by omega)] at hEa
    cases hEa
  go_wp2_with ((with_reducible refine wpList_append_own _ rfl (.tmp 14) (.tmp 17) 22 rfl w.heap.size 5 i5 (.int .u8 0) 1 1 Tryf.underlying22 hi5 H1.out H2.out H3.out rfl (by decide) _ 0 [] rfl (World.ownsRow_nil _ _ _ _) _ 0 512 [] rfl rfl ?c1 ?c2 ?c3 ?c4 ?c5 ?_))
  case c1 => intro j u hj; simp at hj
  case c2 => intro u hu; simp at hu
  case c3 => decide
  case c4 => decide
  case c5 => exact hsz
  intro v1 w1 hown1 hg1 hv1
  subst hv1
  have hb1 : Below w.heap.size w w1 := hbel.grown hg1 hsz (by simp [Value.ownBlock])
  have hE1 := (hb1.cell (p := ⟨0, 0, none⟩) hlt0).trans hE
  have heq := fun n => eql_other ⟨k, 0, none⟩ ea ck cE tk tE (w1.drewN n) hne ((hb1.block k hk.lt).trans hk) ((hb1.block _ hlt1).trans hEa)
  clear hown1 hg1 H1 H2 H3
  go_wp2_with fail
  go_quiet (fail)
  go_wp2_with fail
  go_ret2
  exact ⟨rfl, below_dn hb1 _⟩

/-- What reading all of the stream gives: the byte 65, and no error; the source is taken whole. -/
def AllGood (B s t : Nat) (w : World) (e : Ending) (w' : World) : Prop :=
  ∃ v, e = .returned (.tuple #[v, .bool true]) ∧ w'.ownsRow w.heap.size 5 1 v 1 [.int .u8 65] ∧ Blk w' s 44 #[.slice (some ⟨t, 3, none⟩) 0 0] ∧ Below B w w'

set_option maxHeartbeats 4000000 in
theorem all_good (B d s t : Nat) (c : Array Value) (ea : Addr) (w : World) (hd : Blk w d 69 c) (hs : Blk w s 44 #[.slice (some ⟨t, 0, none⟩) 4 4]) (ht : Blk w t 5 #[.int .u8 128, .int .u8 16, .int .u8 96, .int .u8 32])
    (D0 : Dec c s 0 0 257 65535 0 .nilIface (.slice none 0 0)) (hE : w.cell? ⟨0, 0, none⟩ = some (.iface 78 (.pointer (some ea)))) (hB : 0 < B) (hBd : B ≤ d) (hBs : B ≤ s) :
    Calls Tryf.prog 18 #[.iface 58 (.pointer (some ⟨d, 0, none⟩))] w (AllGood B s t w) := by
  have hmk := mk512
  obtain ⟨i5, hi5, hx5⟩ := opt_map info5
  simp only [Prod.mk.injEq] at hx5
  obtain ⟨hz0, hz1, hz2⟩ := hx5
  have H1 : Hid (i5.zero = some (.int .u8 0)) := hz0
  have H2 : Hid (i5.size = 1) := hz1
  have H3 : Hid (i5.bytes = 1) := hz2
  clear hz0 hz1 hz2
  have hdl := hd.lt
  have hsl := hs.lt
  have hE0 : (w.alloc (.cells zbuf 5)).cell? ⟨0, 0, none⟩ = some (.iface 78 (.pointer (some ea))) := (World.cell?_alloc_lt w _ ⟨0, 0, none⟩ (by show 0 < _; omega)).trans hE
  go_enter Tryf.func18, Tryf.ntmps18
  go_wp2_with fail
  refine wp_loop_rounds 2 ?_
  rw [rounds_succ]
  go_wp2_with fail
  refine (read_first d s t w.heap.size c zbuf ea _ (hd.alloc _) (hs.alloc _) (ht.alloc _) (Blk.new _ _ _) zbuf_size hdl hsl D0 hE0 (by omega) (by omega)).mono ?_
  rintro e W1 ⟨rfl, c1, cs1, a1, n1, hd1, h6, h7, hu1, hx1, hs1, hall⟩
  have hbel : Below B w W1 := ((Below.refl _ _).alloc (by omega) _).trans (hall B hBd hBs (by omega))
  have hu1l := hu1.lt
  have hd1l := hd1.lt
  have hs1l := hs1.lt
  have hsrc : Hid (∀ j v, [Value.int .u8 65][j]? = some v → W1.cell? ((⟨w.heap.size, 0, none⟩ : Addr).add j) = some v) := by
    intro j v hj
    match j, hj with
    | 0, hj =>
      simp at hj
      subst hj
      exact (hu1.cell 0).trans hx1
  clear hmk hE0 hall
  go_wp2_with ((with_reducible refine wpList_append_own _ rfl (.tmp 14) (.tmp 17) 22 rfl W1.heap.size 5 i5 (.int .u8 0) 1 1 Tryf.underlying22 hi5 H1.out H2.out H3.out rfl (by decide) _ 0 [] rfl (World.ownsRow_nil _ _ _ _) _ 1 512 [.int .u8 65] rfl rfl hsrc.out ?c2 ?c3 ?c4 ?c5 ?_))
  case c2 => intro u hu; simp at hu; subst hu; rfl
  case c3 => decide
  case c4 => decide
  case c5 => exact Nat.le_refl _
  intro v1 w1 hown1 hg1 _
  have hnb : ∀ k : Nat, some k ≠ (Value.slice none 0 0).ownBlock := fun k h => by simp [Value.ownBlock] at h
  have hd2 : Blk w1 d 69 c1 := (hg1.block d hd1l (hnb d)).trans hd1
  have hs2 : Blk w1 s 44 _ := (hg1.block s hs1l (hnb s)).trans hs1
  have hb2 : Below B w w1 := hbel.grown hg1 (by have := hbel.size; omega) (fun k h => absurd h.symm (hnb k))
  have hsz1 := hg1.size
  have HO : Hid (w1.ownsRow W1.heap.size 5 1 v1 1 [.int .u8 65]) := hown1
  have HN : Hid (∀ k : Nat, some k ≠ (Value.slice none 0 0).ownBlock) := hnb
  clear hown1 hnb hsrc hg1
  go_wp2_with fail
  rw [rounds_succ]
  go_wp2_with fail
  refine (read_err d 78 c1 _ _ a1 n1 _ hd2 h6 h7).mono ?_
  rintro e W2 ⟨rfl, m, rfl⟩
  have HO2 : Hid ((w1.drewN m).ownsRow W1.heap.size 5 1 v1 1 [.int .u8 65]) := HO.out
  go_wp2_with ((with_reducible refine wpList_append_own _ rfl (.tmp 14) (.tmp 17) 22 rfl W1.heap.size 5 i5 (.int .u8 0) 1 1 Tryf.underlying22 hi5 H1.out H2.out H3.out rfl (by decide) v1 1 [.int .u8 65] rfl HO2.out _ 0 512 [] rfl rfl ?c1 ?c2 ?c3 ?c4 ?c5 ?_))
  case c1 => intro j u hj; simp at hj
  case c2 => intro u hu; simp at hu
  case c3 => decide
  case c4 => decide
  case c5 => exact hsz1
  intro v2 w2 hown2 hg2 _
  have hl2 := HO2.out.lt
  have hnot : ∀ k, k < W1.heap.size → some k ≠ v1.ownBlock := fun k hk he => by have := hl2 k he.symm; omega
  have hE2 : w2.cell? ⟨0, 0, none⟩ = some (.iface 78 (.pointer (some ea))) := by
    refine (World.cell?_of_block (hg2.block 0 (by show 0 < w1.heap.size; omega) (hnot 0 (by omega)))).trans ?_
    exact (hb2.cell (p := ⟨0, 0, none⟩) hB).trans hE
  have hs3 : Blk w2 s 44 _ := (hg2.block s hs2.lt (hnot s hs1l)).trans hs2
  have hb3 : Below B w w2 := (below_dn hb2 m).grown hg2 (by have := hb2.size; show B ≤ w1.heap.size; omega) (fun k h => by have := hl2 k h; have := hbel.size; omega)
  have heq := fun n => eql_same ea (w2.drewN n)
  have HO3 : Hid (w2.ownsRow W1.heap.size 5 1 v2 1 [.int .u8 65]) := hown2
  clear hown2 hg2 hl2 hnot HO HO2 H1 H2 H3 HN
  go_wp2_with fail
  go_quiet (fail)
  go_wp2_with fail
  go_ret2
  refine ⟨v2, rfl, ?_, hs3, below_dn hb3 _⟩
  exact ownsRow_mono HO3.out hbel.size
end Go.Proofs.YtdleleaolfeahaaFmt
