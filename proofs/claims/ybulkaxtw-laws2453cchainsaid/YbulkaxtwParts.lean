/-
  WHAT THE LAW's MEMORY IS: a node's cells; the chain that the first loop builds ('Inv'); what a round does to it ('inv_step'). No walk here.
-/
import Derived.Test.YbulkaxtwPlain
import Derived.WalkKit
import Derived.ProofKit
import Derived.WalkSmall
namespace Go.Proofs.Ybulkaxtw
open Go.ChangeShapes Go.WideShapes Go.ChangeAt Go.RowKit

/-- The cells of a node that the law reads: its block pointer, the id's first two bytes, parent, skip, seq, payloads, logEnd. -/
structure Node (w : World) (b Bl : Nat) (par : Option Addr) (X : Nat) (i0 i1 : Int) : Prop where
  c0 : w.cell? ⟨b, 0, none⟩ = some (.pointer (some ⟨Bl, 0, none⟩))
  c1 : w.cell? ⟨b, 1, none⟩ = some (.int .u8 i0)
  c2 : w.cell? ⟨b, 2, none⟩ = some (.int .u8 i1)
  c33 : w.cell? ⟨b, 33, none⟩ = some (.pointer par)
  c34 : w.cell? ⟨b, 34, none⟩ = some (.pointer (some ⟨X, 0, none⟩))
  c35 : w.cell? ⟨b, 35, none⟩ = some (.int .i64 0)
  c36 : w.cell? ⟨b, 36, none⟩ = some (.slice none 0 0)
  c37 : w.cell? ⟨b, 37, none⟩ = some (.int .u64 0)

theorem Node.of_block {w w' : World} {b Bl : Nat} {par : Option Addr} {X : Nat} {i0 i1 : Int} (h : Node w b Bl par X i0 i1) (e : w'.heap[b]? = w.heap[b]?) : Node w' b Bl par X i0 i1 := by
  have t : ∀ o, w'.cell? ⟨b, o, none⟩ = w.cell? ⟨b, o, none⟩ := fun o => World.cell?_of_block (w := w) (a := ⟨b, o, none⟩) e
  exact ⟨(t 0).trans h.c0, (t 1).trans h.c1, (t 2).trans h.c2, (t 33).trans h.c33, (t 34).trans h.c34, (t 35).trans h.c35, (t 36).trans h.c36, (t 37).trans h.c37⟩

/-- All blocks but the two rows are as they were. -/
structure Kept (gN gB : Nat) (w w' : World) : Prop where
  size : w.heap.size ≤ w'.heap.size
  block : ∀ k, k < w.heap.size → k ≠ gN → k ≠ gB → w'.heap[k]? = w.heap[k]?

theorem Kept.refl (gN gB : Nat) (w : World) : Kept gN gB w w := ⟨Nat.le_refl _, fun _ _ _ _ => rfl⟩
theorem Kept.trans {gN gB : Nat} {a b c : World} (h : Kept gN gB a b) (k : Kept gN gB b c) : Kept gN gB a c :=
  ⟨Nat.le_trans h.size k.size, fun i hi h1 h2 => (k.block i (Nat.lt_of_lt_of_le hi h.size) h1 h2).trans (h.block i hi h1 h2)⟩
theorem Kept.of_below {gN gB : Nat} {a b : World} (h : Below a.heap.size a b) : Kept gN gB a b := ⟨h.size, fun i hi _ _ => h.block i hi⟩
theorem Kept.of_alloc {gN gB : Nat} (w : World) (o : Obj) : Kept gN gB w (w.alloc o) := .of_below ((Below.refl _ _).alloc (Nat.le_refl _) _)
theorem Kept.of_grownN {gN gB : Nat} {w w' : World} (h : w.grownBy w' (some gN)) : Kept gN gB w w' := ⟨h.size, fun i hi h1 _ => h.block i hi (by simpa using h1)⟩
theorem Kept.of_grownB {gN gB : Nat} {w w' : World} (h : w.grownBy w' (some gB)) : Kept gN gB w w' := ⟨h.size, fun i hi _ h2 => h.block i hi (by simpa using h2)⟩

theorem Kept.of_grown0 {gN gB : Nat} {w w' : World} (h : w.grownBy w' none) : Kept gN gB w w' := ⟨h.size, fun i hi _ _ => h.block i hi (by simp)⟩

/-- Where an owned row lies. -/
theorem own_at {w : World} {base e g n cap : Nat} {xs : List Value} (h : w.ownsRow base e 1 (.slice (some ⟨g, 0, none⟩) n cap) n xs) : base ≤ g ∧ g < w.heap.size := by
  rcases h.2 with ⟨h', _⟩ | ⟨g', cap', cur, h', hb, hg, _⟩
  · simp at h'
  · simp only [Value.slice.injEq, Option.some.injEq, Addr.mk.injEq, and_true, true_and] at h'
    obtain ⟨rfl, rfl⟩ := h'
    refine ⟨hb, ?_⟩
    by_cases hlt : g < w.heap.size
    · exact hlt
    · rw [Array.getElem?_eq_none (by omega)] at hg
      simp at hg

def ptr (b : Nat) : Value := .pointer (some ⟨b, 0, none⟩)
def parOf (N : Nat → Nat) : Nat → Option Addr
  | 0 => none
  | j + 1 => some ⟨N j, 0, none⟩
def ptrs (N : Nat → Nat) (n : Nat) : List Value := (List.range n).map fun j => ptr (N j)
theorem ptrs_get (N : Nat → Nat) (n j : Nat) (h : j < n) : (ptrs N n)[j]? = some (.pointer (some ⟨N j, 0, none⟩)) := by
  simp [ptrs, ptr, h]

theorem row_cell {w : World} {base e g n cap : Nat} {N : Nat → Nat} (h : w.ownsRow base e 1 (.slice (some ⟨g, 0, none⟩) n cap) n (ptrs N n)) (j : Nat) (hj : j < n) : w.cell? ⟨g, j, none⟩ = some (.pointer (some ⟨N j, 0, none⟩)) := by
  rw [h.cellAt j (by omega), ptrs_get _ _ _ hj]

/-- THE CHAIN, when k nodes have been laid behind the root: W: the world at the call's start; N j, K j: the blocks of node j and of its Block; gN, gB: the two rows. -/
structure Inv (W w : World) (base : Int) (cnt gN gB k : Nat) (N K : Nat → Nat) : Prop where
  below : Below W.heap.size W w
  rowN : w.ownsRow W.heap.size 24 1 (.slice (some ⟨gN, 0, none⟩) (k + 1) (cnt + 1)) (k + 1) (ptrs N (k + 1))
  rowB : w.ownsRow W.heap.size 25 1 (.slice (some ⟨gB, 0, none⟩) (k + 1) (cnt + 1)) (k + 1) (ptrs K (k + 1))
  ne : gN ≠ gB
  gNlo : W.heap.size ≤ gN
  gBlo : W.heap.size ≤ gB
  gNlt : gN < w.heap.size
  gBlt : gB < w.heap.size
  lt : ∀ j, j ≤ k → N j < w.heap.size ∧ K j < w.heap.size
  off : ∀ j, j ≤ k → N j ≠ gN ∧ N j ≠ gB ∧ K j ≠ gN ∧ K j ≠ gB
  node : ∀ j, j ≤ k → Node w (N j) (K j) (parOf N j) (N (Plain.skipOf j)) ((j : Int) % 256) ((j : Int) / 256)
  height : ∀ j, j ≤ k → w.cell? ⟨K j, 1, none⟩ = some (.int .u64 (IntKind.u64.wrap (base + (j : Int))))

/-- THE CHAIN AT THE FIRST LOOP's HEAD: the root alone. -/
theorem inv_start {W wc w1 w2 w4 w6 : World} {base : Int} {cnt : Nat} {o4 o6 : Obj} (b0 : 0 ≤ base) (b1 : base ≤ 18446744073709551615)
    (h0 : wc.heap.size = W.heap.size + 2 ∧ Below W.heap.size W wc ∧ Node wc (W.heap.size + 1) W.heap.size none (W.heap.size + 1) 0 0 ∧ wc.cell? ⟨W.heap.size, 1, none⟩ = some (.int .u64 base))
    (hown1 : w1.ownsRow W.heap.size 24 1 (.slice (some ⟨wc.heap.size, 0, none⟩) 0 (cnt + 1)) 0 []) (hg1 : wc.grownBy w1 none)
    (hg2 : w1.grownBy w2 none)
    (hown4 : w4.ownsRow W.heap.size 24 1 (.slice (some ⟨wc.heap.size, 0, none⟩) (0 + 1) (cnt + 1)) (0 + 1) ([] ++ [ptr (W.heap.size + 1)])) (hg4 : (w2.alloc o4).grownBy w4 (some wc.heap.size))
    (hown6 : w6.ownsRow W.heap.size 25 1 (.slice (some ⟨w1.heap.size, 0, none⟩) (0 + 1) (cnt + 1)) (0 + 1) ([] ++ [ptr W.heap.size])) (hg6 : (w4.alloc o6).grownBy w6 (some w1.heap.size)) :
    Inv W w6 base cnt wc.heap.size w1.heap.size 0 (fun _ => W.heap.size + 1) (fun _ => W.heap.size) := by
  obtain ⟨hsz, hbel, hnd, hht⟩ := h0
  have a1 := own_at hown1
  have a4 := own_at hown4
  have a6 := own_at hown6
  have s1 := hg1.size
  have s2 := hg2.size
  have s4 := hg4.size
  have s6 := hg6.size
  rw [World.size_alloc] at s4 s6
  have kept : Kept wc.heap.size w1.heap.size wc w6 :=
    ((((Kept.of_grown0 hg1).trans (.of_grown0 hg2)).trans (.of_alloc _ o4)).trans (.of_grownN hg4)).trans ((Kept.of_alloc _ o6).trans (.of_grownB hg6))
  have below : Below W.heap.size W w6 :=
    ((((((hbel.grown hg1 (by omega) (by simp)).grown hg2 (by omega) (by simp)).alloc (by omega) o4).grown hg4 (by simp; omega) (by simp; omega)).alloc (by omega) o6).grown hg6 (by simp; omega) (by simp; omega))
  refine ⟨below, ?_, ?_, by omega, by omega, by omega, by omega, by omega, ?_, ?_, ?_, ?_⟩
  · exact (hown4.alloc o6).kept hg6 (Or.inr (by simp [Value.ownBlock]; omega))
  · exact hown6
  · intro j _; omega
  · intro j _; omega
  · intro j hj
    obtain rfl : j = 0 := by omega
    exact hnd.of_block (kept.block _ (by omega) (by omega) (by omega))
  · intro j hj
    obtain rfl : j = 0 := by omega
    have e : IntKind.u64.wrap (base + ((0 : Nat) : Int)) = base := by rw [IntKind.wrap_u64]; omega
    rw [e]
    exact (World.cell?_of_block (w := wc) (a := ⟨W.heap.size, 1, none⟩) (kept.block W.heap.size (by omega) (by omega) (by omega))).trans hht

/-- A family, one more named. -/
def upd (N : Nat → Nat) (k b : Nat) : Nat → Nat := fun j => if j = k then b else N j
theorem upd_same (N : Nat → Nat) (k b : Nat) : upd N k b k = b := by simp [upd]
theorem upd_lt (N : Nat → Nat) (k b j : Nat) (h : j < k) : upd N k b j = N j := by simp [upd]; omega
theorem ptrs_upd (N : Nat → Nat) (n b : Nat) : ptrs (upd N n b) (n + 1) = ptrs N n ++ [ptr b] := by
  unfold ptrs
  rw [List.range_succ, List.map_append]
  congr 1
  · apply List.map_congr_left
    intro j hj
    rw [upd_lt N n b j (by simpa using hj)]
  · simp [upd_same]
theorem parOf_upd (N : Nat → Nat) (n b j : Nat) (h : j ≤ n) : parOf (upd N n b) j = parOf N j := by
  cases j with
  | zero => rfl
  | succ j =>
    show some (⟨upd N n b j, 0, none⟩ : Addr) = some ⟨N j, 0, none⟩
    rw [upd_lt N n b j (by omega)]

/-- WHAT A ROUND DOES. -/
theorem inv_step {W w w' : World} {base : Int} {cnt gN gB k : Nat} {N K : Nat → Nat} {nb kb : Nat} (h : Inv W w base cnt gN gB k N K)
    (kept : Kept gN gB w w') (below : Below W.heap.size W w')
    (rowN : w'.ownsRow W.heap.size 24 1 (.slice (some ⟨gN, 0, none⟩) (k + 1 + 1) (cnt + 1)) (k + 1 + 1) (ptrs N (k + 1) ++ [ptr nb]))
    (rowB : w'.ownsRow W.heap.size 25 1 (.slice (some ⟨gB, 0, none⟩) (k + 1 + 1) (cnt + 1)) (k + 1 + 1) (ptrs K (k + 1) ++ [ptr kb]))
    (lN : nb < w'.heap.size) (lK : kb < w'.heap.size) (oN : w.heap.size ≤ nb) (oK : w.heap.size ≤ kb)
    (node : Node w' nb kb (some ⟨N k, 0, none⟩) (N (Plain.skipOf (k + 1))) (((k + 1 : Nat) : Int) % 256) (((k + 1 : Nat) : Int) / 256))
    (hsk : Plain.skipOf (k + 1) ≤ k)
    (height : w'.cell? ⟨kb, 1, none⟩ = some (.int .u64 (IntKind.u64.wrap (base + ((k + 1 : Nat) : Int))))) :
    Inv W w' base cnt gN gB (k + 1) (upd N (k + 1) nb) (upd K (k + 1) kb) := by
  have a1 := h.gNlt
  have a2 := h.gBlt
  refine ⟨below, ?_, ?_, h.ne, h.gNlo, h.gBlo, Nat.lt_of_lt_of_le a1 kept.size, Nat.lt_of_lt_of_le a2 kept.size, ?_, ?_, ?_, ?_⟩
  · rw [ptrs_upd]; exact rowN
  · rw [ptrs_upd]; exact rowB
  · intro j hj
    by_cases e : j = k + 1
    · subst e; rw [upd_same, upd_same]; exact ⟨lN, lK⟩
    · rw [upd_lt _ _ _ _ (by omega), upd_lt _ _ _ _ (by omega)]
      have := h.lt j (by omega)
      exact ⟨Nat.lt_of_lt_of_le this.1 kept.size, Nat.lt_of_lt_of_le this.2 kept.size⟩
  · intro j hj
    by_cases e : j = k + 1
    · subst e; rw [upd_same, upd_same]; omega
    · rw [upd_lt _ _ _ _ (by omega), upd_lt _ _ _ _ (by omega)]
      exact h.off j (by omega)
  · intro j hj
    rw [parOf_upd _ _ _ _ hj]
    by_cases e : j = k + 1
    · subst e
      rw [upd_same, upd_same, upd_lt _ _ _ _ (by omega : Plain.skipOf (k + 1) < k + 1)]
      exact node
    · have hs := Plain.skip_le j
      rw [upd_lt _ _ _ _ (by omega), upd_lt _ _ _ _ (by omega), upd_lt _ _ _ _ (by omega : Plain.skipOf j < k + 1)]
      have o := h.off j (by omega)
      exact (h.node j (by omega)).of_block (kept.block _ (h.lt j (by omega)).1 o.1 o.2.1)
  · intro j hj
    by_cases e : j = k + 1
    · subst e; rw [upd_same]; exact height
    · rw [upd_lt _ _ _ _ (by omega)]
      have o := h.off j (by omega)
      exact (World.cell?_of_block (w := w) (a := ⟨K j, 1, none⟩) (kept.block _ (h.lt j (by omega)).2 o.2.2.1 o.2.2.2)).trans (h.height j (by omega))

/-- The test of newNode, on heights that go round. -/
theorem test_iff (base : Int) (p s t : Nat) (h1 : s ≤ p) (h2 : t ≤ s) (hp : p ≤ 1024) :
    (IntKind.u64.wrap (IntKind.u64.wrap (base + (p : Int)) - IntKind.u64.wrap (base + (s : Int))) == IntKind.u64.wrap (IntKind.u64.wrap (base + (s : Int)) - IntKind.u64.wrap (base + (t : Int)))) = decide (p - s = s - t) := by
  simp only [IntKind.wrap_u64]
  rw [Bool.eq_iff_iff]
  simp only [beq_iff_eq, decide_eq_true_eq]
  omega

end Go.Proofs.Ybulkaxtw
