/-
  ONE ROUND OF THE LAW's FIRST LOOP, IN MEMORY: what lies ahead of newNode's call ('Mid'), behind it ('Aft'), and at the round's end. No walk here but newNode's, by its contract.
-/
import Derived.Test.YbulkaxtwNode
import Derived.Test.YbulkaxtwSpan
import Derived.Laws.Tables
import Derived.Deep.CutRange
import Derived.Deep.LoopGhost
import Derived.Deep.RegionWith
import Derived.Deep.MidRow
import Derived.Maps.AppendAt
import Derived.Deep.RegionHeld
import Derived.Lib.Builder
import Derived.WalkSpells
namespace Go.Proofs.Ybulkaxtw
open Go.ChangeShapes Go.WideShapes Go.ChangeAt Go.RowKit
theorem zero_block : ∃ Z : Array Value, (∀ w : World, (zeroValue 37).run Yba.prog w = .ok (.agg Z) w) ∧ Z.size = 135 ∧ ¬ Z = #[] :=
  ⟨#[.int .u64 0, .int .u64 0, .int .u8 0, .int .u8 0, .int .u8 0, .int .u8 0, .int .u8 0, .int .u8 0, .int .u8 0, .int .u8 0, .int .u8 0, .int .u8 0, .int .u8 0, .int .u8 0, .int .u8 0, .int .u8 0, .int .u8 0, .int .u8 0, .int .u8 0, .int .u8 0, .int .u8 0, .int .u8 0, .int .u8 0, .int .u8 0, .int .u8 0, .int .u8 0, .int .u8 0, .int .u8 0, .int .u8 0, .int .u8 0, .int .u8 0, .int .u8 0, .int .u8 0, .int .u8 0, .int .i64 0, .slice none 0 0, .int .u8 0, .int .u8 0, .int .u8 0, .int .u8 0, .int .u8 0, .int .u8 0, .int .u8 0, .int .u8 0, .int .u8 0, .int .u8 0, .int .u8 0, .int .u8 0, .int .u8 0, .int .u8 0, .int .u8 0, .int .u8 0, .int .u8 0, .int .u8 0, .int .u8 0, .int .u8 0, .int .u8 0, .int .u8 0, .int .u8 0, .int .u8 0, .int .u8 0, .int .u8 0, .int .u8 0, .int .u8 0, .int .u8 0, .int .u8 0, .int .u8 0, .int .u8 0, .int .u64 0, .bool false, .slice none 0 0, .int .u8 0, .int .u8 0, .int .u8 0, .int .u8 0, .int .u8 0, .int .u8 0, .int .u8 0, .int .u8 0, .int .u8 0, .int .u8 0, .int .u8 0, .int .u8 0, .int .u8 0, .int .u8 0, .int .u8 0, .int .u8 0, .int .u8 0, .int .u8 0, .int .u8 0, .int .u8 0, .int .u8 0, .int .u8 0, .int .u8 0, .int .u8 0, .int .u8 0, .int .u8 0, .int .u8 0, .int .u8 0, .int .u8 0, .int .u8 0, .int .u8 0, .int .u8 0, .int .u8 0, .int .u8 0, .int .u8 0, .int .u8 0, .int .u8 0, .int .u8 0, .int .u8 0, .int .u8 0, .int .u8 0, .int .u8 0, .int .u8 0, .int .u8 0, .int .u8 0, .int .u8 0, .int .u8 0, .int .u8 0, .int .u8 0, .int .u8 0, .int .u8 0, .int .u8 0, .int .u8 0, .int .u8 0, .int .u8 0, .int .u8 0, .int .u8 0, .int .u8 0, .int .u8 0, .int .u8 0, .int .u8 0, .int .u8 0, .int .u8 0, .int .u8 0], fun _ => by kernel_rfl, rfl, by simp⟩
theorem zero_node : ∃ Z : Array Value, (∀ w : World, (zeroValue 40).run Yba.prog w = .ok (.agg Z) w) ∧ Z.size = 38 ∧ ¬ Z = #[] ∧ Z[1]? = some (.int .u8 0) ∧ Z[2]? = some (.int .u8 0) ∧ Z[33]? = some (.pointer none) ∧ Z[34]? = some (.pointer none) ∧ Z[35]? = some (.int .i64 0) ∧ Z[36]? = some (.slice none 0 0) ∧ Z[37]? = some (.int .u64 0) :=
  ⟨#[.pointer none, .int .u8 0, .int .u8 0, .int .u8 0, .int .u8 0, .int .u8 0, .int .u8 0, .int .u8 0, .int .u8 0, .int .u8 0, .int .u8 0, .int .u8 0, .int .u8 0, .int .u8 0, .int .u8 0, .int .u8 0, .int .u8 0, .int .u8 0, .int .u8 0, .int .u8 0, .int .u8 0, .int .u8 0, .int .u8 0, .int .u8 0, .int .u8 0, .int .u8 0, .int .u8 0, .int .u8 0, .int .u8 0, .int .u8 0, .int .u8 0, .int .u8 0, .int .u8 0, .pointer none, .pointer none, .int .i64 0, .slice none 0 0, .int .u64 0], fun _ => by kernel_rfl, rfl, by simp, rfl, rfl, rfl, rfl, rfl, rfl, rfl⟩

theorem Yba.info24 : (Yba.prog.info? 24).map (fun i => (i.zero, i.size, i.bytes)) = some (some (.pointer none), 1, 8) := by kernel_rfl
theorem Yba.info25 : (Yba.prog.info? 25).map (fun i => (i.zero, i.size, i.bytes)) = some (some (.pointer none), 1, 8) := by kernel_rfl

/-- The root, as it lies when its skip pointer has been set. -/
theorem root_laid (w : World) (Z Y : Array Value) (a0 : Int) (hZs : Z.size = 135) (hYs : Y.size = 38) (d1 : Y[1]? = some (.int .u8 0)) (d2 : Y[2]? = some (.int .u8 0)) (d33 : Y[33]? = some (.pointer none))
    (d35 : Y[35]? = some (.int .i64 0)) (d36 : Y[36]? = some (.slice none 0 0)) (d37 : Y[37]? = some (.int .u64 0)) (wx : World)
    (hx : wx = (w.alloc (.cells (Z.setIfInBounds 1 (.int .u64 a0)) 37)).alloc (.cells ((Y.setIfInBounds 0 (.pointer (some ⟨w.heap.size, 0, none⟩))).setIfInBounds 34 (.pointer (some ⟨w.heap.size + 1, 0, none⟩))) 40)) :
    wx.heap.size = w.heap.size + 2 ∧ Below w.heap.size w wx ∧ Node wx (w.heap.size + 1) w.heap.size none (w.heap.size + 1) 0 0 ∧ wx.cell? ⟨w.heap.size, 1, none⟩ = some (.int .u64 a0) := by
  subst hx
  refine ⟨(laid_two _ _ _ 0).1, (laid_two _ _ _ 0).2, node_new _ _ 0 _ _ _ _ _ _ ?_ ?_ ?_ ?_ ?_ ?_ ?_ ?_, ?_⟩
  · simp [hYs]
  · simp [d1]
  · simp [d2]
  · simp [d33]
  · simp [hYs]
  · simp [d35]
  · simp [d36]
  · simp [d37]
  · rw [World.cell?_alloc_past _ _ _ (by simp), World.cell?_alloc_at _ _ _ _ rfl]
    simp [hZs]

/-- The root's block pointer, behind the first append. -/
theorem root_cell {W wc w1 w2 w4 : World} {base : Int} {cnt : Nat} {o4 : Obj}
    (h0 : wc.heap.size = W.heap.size + 2 ∧ Below W.heap.size W wc ∧ Node wc (W.heap.size + 1) W.heap.size none (W.heap.size + 1) 0 0 ∧ wc.cell? ⟨W.heap.size, 1, none⟩ = some (.int .u64 base))
    (hown1 : w1.ownsRow W.heap.size 24 1 (.slice (some ⟨wc.heap.size, 0, none⟩) 0 (cnt + 1)) 0 []) (hg1 : wc.grownBy w1 none) (hg2 : w1.grownBy w2 none) (hg4 : (w2.alloc o4).grownBy w4 (some wc.heap.size)) :
    w4.cell? ⟨W.heap.size + 1, 0, none⟩ = some (.pointer (some ⟨W.heap.size, 0, none⟩)) := by
  obtain ⟨hsz, _, hnd, _⟩ := h0
  have a1 := own_at hown1
  have kept : Kept wc.heap.size w1.heap.size wc w4 := (((Kept.of_grown0 hg1).trans (.of_grown0 hg2)).trans (.of_alloc _ o4)).trans (.of_grownN hg4)
  exact (hnd.of_block (kept.block _ (by omega) (by omega) (by omega))).c0

/-- The world ahead of newNode's call: the round's Block and id have been laid. -/
structure Mid (w wx : World) (base : Int) (k : Nat) : Prop where
  size : wx.heap.size = w.heap.size + 2
  below : Below w.heap.size w wx
  height : wx.cell? ⟨w.heap.size, 1, none⟩ = some (.int .u64 (IntKind.u64.wrap (base + ((k : Int) + 1))))
  id : wx.heap[w.heap.size + 1]? = some (.cells #[.int .u8 (((k : Int) + 1) % 256), .int .u8 (((k : Int) + 1) / 256), .int .u8 0, .int .u8 0, .int .u8 0, .int .u8 0, .int .u8 0, .int .u8 0, .int .u8 0, .int .u8 0, .int .u8 0, .int .u8 0, .int .u8 0, .int .u8 0, .int .u8 0, .int .u8 0, .int .u8 0, .int .u8 0, .int .u8 0, .int .u8 0, .int .u8 0, .int .u8 0, .int .u8 0, .int .u8 0, .int .u8 0, .int .u8 0, .int .u8 0, .int .u8 0, .int .u8 0, .int .u8 0, .int .u8 0, .int .u8 0] 27)

theorem mid_laid (w : World) (Z : Array Value) (base : Int) (k : Nat) (hZs : Z.size = 135) :
    Mid w ((w.alloc (.cells ((Z.setIfInBounds 1 (.int .u64 (IntKind.u64.wrap (base + ((k : Int) + 1))))).setIfInBounds 0 (.int .u64 ((k : Int) + 1))) 37)).alloc (.cells #[.int .u8 (((k : Int) + 1) % 256), .int .u8 (((k : Int) + 1) / 256), .int .u8 0, .int .u8 0, .int .u8 0, .int .u8 0, .int .u8 0, .int .u8 0, .int .u8 0, .int .u8 0, .int .u8 0, .int .u8 0, .int .u8 0, .int .u8 0, .int .u8 0, .int .u8 0, .int .u8 0, .int .u8 0, .int .u8 0, .int .u8 0, .int .u8 0, .int .u8 0, .int .u8 0, .int .u8 0, .int .u8 0, .int .u8 0, .int .u8 0, .int .u8 0, .int .u8 0, .int .u8 0, .int .u8 0, .int .u8 0] 27)) base k := by
  refine ⟨by simp, ((Below.refl _ _).alloc (Nat.le_refl _) _).alloc (by simp) _, ?_, ?_⟩
  · rw [World.cell?_alloc_past _ _ _ (by simp), World.cell?_alloc_at _ _ _ _ rfl]
    simp [hZs]
  · have h := heap_alloc_new (w.alloc (.cells ((Z.setIfInBounds 1 (.int .u64 (IntKind.u64.wrap (base + ((k : Int) + 1))))).setIfInBounds 0 (.int .u64 ((k : Int) + 1))) 37)) (.cells #[.int .u8 (((k : Int) + 1) % 256), .int .u8 (((k : Int) + 1) / 256), .int .u8 0, .int .u8 0, .int .u8 0, .int .u8 0, .int .u8 0, .int .u8 0, .int .u8 0, .int .u8 0, .int .u8 0, .int .u8 0, .int .u8 0, .int .u8 0, .int .u8 0, .int .u8 0, .int .u8 0, .int .u8 0, .int .u8 0, .int .u8 0, .int .u8 0, .int .u8 0, .int .u8 0, .int .u8 0, .int .u8 0, .int .u8 0, .int .u8 0, .int .u8 0, .int .u8 0, .int .u8 0, .int .u8 0, .int .u8 0] 27)
    rw [World.size_alloc] at h
    exact h

theorem mid_cell {W w wx : World} {base : Int} {cnt gN gB k : Nat} {N K : Nat → Nat} {n : Nat} (hm : Mid w wx base k) (h : Inv W w base cnt gN gB k N K) : (wx.drewN n).cell? ⟨gN, k, none⟩ = some (.pointer (some ⟨N k, 0, none⟩)) := by
  rw [World.cell?_drewN, hm.below.cell (p := ⟨gN, k, none⟩) h.gNlt, h.rowN.cellAt k (by omega), ptrs_get _ _ _ (by omega)]

theorem mid_range {w wx : World} {base : Int} {k : Nat} (hm : Mid w wx base k) : wx.rangeAt (w.heap.size + 1) 0 [.int .u8 (((k : Int) + 1) % 256), .int .u8 (((k : Int) + 1) / 256), .int .u8 0, .int .u8 0, .int .u8 0, .int .u8 0, .int .u8 0, .int .u8 0, .int .u8 0, .int .u8 0, .int .u8 0, .int .u8 0, .int .u8 0, .int .u8 0, .int .u8 0, .int .u8 0, .int .u8 0, .int .u8 0, .int .u8 0, .int .u8 0, .int .u8 0, .int .u8 0, .int .u8 0, .int .u8 0, .int .u8 0, .int .u8 0, .int .u8 0, .int .u8 0, .int .u8 0, .int .u8 0, .int .u8 0, .int .u8 0] := by
  intro j v hv
  rw [Nat.zero_add, cell_of_row wx (w.heap.size + 1) j _ 27 (0, 0) hm.id]
  simpa using hv

theorem held_after {wx w3 : World} {b gN k : Nat} {cs : List Value} {v : Value} (hr : wx.rangeAt b 0 cs) (hc : wx.cell? ⟨gN, k, none⟩ = some v) (hb : Below wx.heap.size wx w3) (l1 : b < wx.heap.size) (l2 : gN < wx.heap.size) :
    w3.rangeAt b 0 cs ∧ w3.cell? ⟨gN, k, none⟩ = some v :=
  ⟨fun j u hu => (hb.cell (p := ⟨b, 0 + j, none⟩) l1).trans (hr j u hu), (hb.cell (p := ⟨gN, k, none⟩) l2).trans hc⟩

theorem hidden {p : Prop} (h : p) : Hid p := h

theorem grown_of_below {w w' : World} (h : Below w.heap.size w w') : w.grownBy w' none := ⟨h.os, h.tape, h.output, h.size, fun k hk _ => h.block k hk⟩

/-- Behind newNode's call. -/
structure Aft (wr wx w3 : World) (base : Int) (k : Nat) (N : Nat → Nat) : Prop where
  size : w3.heap.size = wx.heap.size + 2
  below : Below wx.heap.size wx w3
  node : Node w3 (wx.heap.size + 1) wr.heap.size (some ⟨N k, 0, none⟩) (N (Plain.skipOf (k + 1))) (((k : Int) + 1) % 256) (((k : Int) + 1) / 256)

theorem node_call {W wr wx : World} {base : Int} {cnt gN gB k : Nat} {N K : Nat → Nat} (hm : Mid wr wx base k) (h : Inv W wr base cnt gN gB k N K) (hk : k < 1024) :
    Calls Yba.prog 4 #[.pointer (some ⟨wr.heap.size, 0, none⟩), .agg #[.int .u8 (((k : Int) + 1) % 256), .int .u8 (((k : Int) + 1) / 256), .int .u8 0, .int .u8 0, .int .u8 0, .int .u8 0, .int .u8 0, .int .u8 0, .int .u8 0, .int .u8 0, .int .u8 0, .int .u8 0, .int .u8 0, .int .u8 0, .int .u8 0, .int .u8 0, .int .u8 0, .int .u8 0, .int .u8 0, .int .u8 0, .int .u8 0, .int .u8 0, .int .u8 0, .int .u8 0, .int .u8 0, .int .u8 0, .int .u8 0, .int .u8 0, .int .u8 0, .int .u8 0, .int .u8 0, .int .u8 0], .pointer (some ⟨N k, 0, none⟩)] wx.drew fun e w' =>
      e = .returned (.pointer (some ⟨wx.heap.size + 1, 0, none⟩)) ∧ Aft wr wx w' base k N := by
  have hs1 := Plain.skip_le k
  have hs2 := Plain.skip_le (Plain.skipOf k)
  have hz := hm.size
  have n0 := h.node k (Nat.le_refl _)
  have n1 := h.node (Plain.skipOf k) (by omega)
  have n2 := h.node (Plain.skipOf (Plain.skipOf k)) (by omega)
  have l0 := h.lt k (Nat.le_refl _)
  have l1 := h.lt (Plain.skipOf k) (by omega)
  have l2 := h.lt (Plain.skipOf (Plain.skipOf k)) (by omega)
  have m0 := n0.of_block (w' := wx.drew) (hm.below.block _ l0.1)
  have m1 := n1.of_block (w' := wx.drew) (hm.below.block _ l1.1)
  have m2 := n2.of_block (w' := wx.drew) (hm.below.block _ l2.1)
  have e0 : wx.drew.cell? ⟨K k, 1, none⟩ = _ := (hm.below.cell (p := ⟨K k, 1, none⟩) l0.2).trans (h.height k (Nat.le_refl _))
  have e1 : wx.drew.cell? ⟨K (Plain.skipOf k), 1, none⟩ = _ := (hm.below.cell (p := ⟨K (Plain.skipOf k), 1, none⟩) l1.2).trans (h.height _ (by omega))
  have e2 : wx.drew.cell? ⟨K (Plain.skipOf (Plain.skipOf k)), 1, none⟩ = _ := (hm.below.cell (p := ⟨K (Plain.skipOf (Plain.skipOf k)), 1, none⟩) l2.2).trans (h.height _ (by omega))
  have d : wx.drew.heap.size = wx.heap.size := rfl
  refine (node_any wr.heap.size (N k) (K k) (N (Plain.skipOf k)) (K (Plain.skipOf k)) (N (Plain.skipOf (Plain.skipOf k))) (K (Plain.skipOf (Plain.skipOf k))) _ _ _ _ _ wx.drew
    (by omega) (by omega) (by omega) (by omega) (by omega) (by omega) m0.c0 m0.c34 m1.c0 m1.c34 m2.c0 e0 e1 e2).mono ?_
  rintro e w' ⟨rfl, hs, hb, X, hX, hn⟩
  have hstep := Plain.skip_step k hk
  rw [test_iff base k (Plain.skipOf k) (Plain.skipOf (Plain.skipOf k)) hs1 hs2 (by omega)] at hX
  have hXe : X = N (Plain.skipOf (k + 1)) := by
    rw [hstep]
    rcases hX with ⟨hd, rfl⟩ | ⟨hd, rfl⟩
    · rw [if_pos (of_decide_eq_true hd)]
    · rw [if_neg (of_decide_eq_false hd)]
  subst hXe
  exact ⟨rfl, hs, ⟨hb.os, hb.tape, hb.output, hb.size, hb.block⟩, hn⟩

theorem hN_aft {W wr wx w3 : World} {base : Int} {cnt gN gB k : Nat} {N K : Nat → Nat} (hm : Mid wr wx base k) (h : Inv W wr base cnt gN gB k N K) (ha : Aft wr wx w3 base k N) :
    w3.ownsRow W.heap.size 24 1 (.slice (some ⟨gN, 0, none⟩) (k + 1) (cnt + 1)) (k + 1) (ptrs N (k + 1)) :=
  (h.rowN.kept (grown_of_below hm.below) (Or.inr (by simp [Value.ownBlock]))).kept (grown_of_below ha.below) (Or.inr (by simp [Value.ownBlock]))

theorem hB_aft {W wr wx w3 : World} {base : Int} {cnt gN gB k : Nat} {N K : Nat → Nat} (hm : Mid wr wx base k) (h : Inv W wr base cnt gN gB k N K) (ha : Aft wr wx w3 base k N) :
    w3.ownsRow W.heap.size 25 1 (.slice (some ⟨gB, 0, none⟩) (k + 1) (cnt + 1)) (k + 1) (ptrs K (k + 1)) :=
  (h.rowB.kept (grown_of_below hm.below) (Or.inr (by simp [Value.ownBlock]))).kept (grown_of_below ha.below) (Or.inr (by simp [Value.ownBlock]))

/-- A pointer held against itself. -/
theorem neq24 (a : Addr) (w : World) : (binOp .neq 24 (.pointer (some a)) (.pointer (some a))).run Yba.prog w = .ok (.bool false) w := by
  obtain ⟨j, hj⟩ := Option.isSome_iff_exists.1 (show (Yba.prog.info? 40).isSome = true by kernel_rfl)
  exact Lib.run_neq_ptr_same w a Yba.underlying24 hj
theorem neq25 (a : Addr) (w : World) : (binOp .neq 25 (.pointer (some a)) (.pointer (some a))).run Yba.prog w = .ok (.bool false) w := by
  obtain ⟨j, hj⟩ := Option.isSome_iff_exists.1 (show (Yba.prog.info? 37).isSome = true by kernel_rfl)
  exact Lib.run_neq_ptr_same w a Yba.underlying25 hj

theorem neq38 (w : World) : (binOp .neq 38 (.slice none 0 0) (.slice none 0 0)).run Yba.prog w = .ok (.bool false) w := run_neq_slice_nil_any w 38 67 none 0 0 0 0 Yba.underlying38

/-- THE ROUND's END. -/
theorem round_end {W wr wx w3 w4 w5 : World} {base : Int} {cnt gN gB k : Nat} {N K : Nat → Nat} {o4 o5 : Obj} (hm : Mid wr wx base k) (h : Inv W wr base cnt gN gB k N K) (ha : Aft wr wx w3 base k N) (hk : k < 1024)
    (hown4 : w4.ownsRow W.heap.size 24 1 (.slice (some ⟨gN, 0, none⟩) (k + 1 + 1) (cnt + 1)) (k + 1 + 1) (ptrs N (k + 1) ++ [ptr (wx.heap.size + 1)])) (hg4 : (w3.alloc o4).grownBy w4 (some gN))
    (hown5 : w5.ownsRow W.heap.size 25 1 (.slice (some ⟨gB, 0, none⟩) (k + 1 + 1) (cnt + 1)) (k + 1 + 1) (ptrs K (k + 1) ++ [ptr wr.heap.size])) (hg5 : (w4.alloc o5).grownBy w5 (some gB)) :
    Inv W w5 base cnt gN gB (k + 1) (upd N (k + 1) (wx.heap.size + 1)) (upd K (k + 1) wr.heap.size) := by
  have z1 := hm.size
  have z2 := ha.size
  have z3 := hg4.size
  have z4 := hg5.size
  rw [World.size_alloc] at z3 z4
  have g1 := h.gNlt
  have g2 := h.gBlt
  have b1 := h.gNlo
  have b2 := h.gBlo
  have b3 := h.below.size
  have k3 : Kept gN gB w3 w5 := (((Kept.of_alloc _ o4).trans (.of_grownN hg4)).trans (.of_alloc _ o5)).trans (.of_grownB hg5)
  have kx : Kept gN gB wx w5 := (Kept.of_below ha.below).trans k3
  have kr : Kept gN gB wr w5 := (Kept.of_below hm.below).trans kx
  have below : Below W.heap.size W w5 :=
    ((((((h.below.trans (hm.below.mono b3)).trans (ha.below.mono (by omega))).alloc (by omega) o4).grown hg4 (by simp; omega) (by simp; omega)).alloc (by omega) o5).grown hg5 (by simp; omega) (by simp; omega))
  have hsk : Plain.skipOf (k + 1) ≤ k := by
    rw [Plain.skip_step k hk]
    have hs1 := Plain.skip_le k
    have hs2 := Plain.skip_le (Plain.skipOf k)
    split <;> omega
  have hcast : (((k + 1 : Nat) : Int)) = (k : Int) + 1 := by omega
  refine inv_step h kr below ((hown4.alloc o5).kept hg5 (Or.inr (by simp [Value.ownBlock]; exact h.ne))) hown5 (by omega) (by omega) (by omega) (Nat.le_refl _) ?_ hsk ?_
  · rw [hcast]
    exact ha.node.of_block (k3.block _ (by omega) (by omega) (by omega))
  · rw [hcast]
    exact (World.cell?_of_block (w := wx) (a := ⟨wr.heap.size, 1, none⟩) (kx.block wr.heap.size (by omega) (by omega) (by omega))).trans hm.height

end Go.Proofs.Ybulkaxtw
