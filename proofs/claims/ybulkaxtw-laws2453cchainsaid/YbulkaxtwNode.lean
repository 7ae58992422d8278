/-
  THE WALK OF newNode (function 4): it lays two blocks (the id's box, the node), the node's skip pointer by the rule on heights; nothing old turns.
-/
import Derived.Test.YbulkaxtwRows
import Derived.Test.YbulkaxtwParts
import Derived.WalkKit
import Derived.ProofKit
import Derived.OpenShut
import Derived.Handy
import Derived.Deep.QuietTactic
import Derived.BigQuiet
import Derived.Deep.Cut
import Derived.Deep.CutRange
import Derived.WalkSmall
import Derived.Laws.Rows
namespace Go.Proofs.Ybulkaxtw
open Go.ChangeShapes Go.WideShapes Go.ChangeAt Go.RowKit

/-- A node that has just been laid, behind one block more, draws made. -/
theorem node_new (w : World) (o : Obj) (n : Nat) (c : Array Value) (Bl : Nat) (par : Option Addr) (X : Nat) (i0 i1 : Int)
    (c0 : c[0]? = some (.pointer (some ⟨Bl, 0, none⟩))) (c1 : c[1]? = some (.int .u8 i0)) (c2 : c[2]? = some (.int .u8 i1)) (c33 : c[33]? = some (.pointer par))
    (c34 : c[34]? = some (.pointer (some ⟨X, 0, none⟩))) (c35 : c[35]? = some (.int .i64 0)) (c36 : c[36]? = some (.slice none 0 0)) (c37 : c[37]? = some (.int .u64 0)) :
    Node (((w.alloc o).alloc (.cells c 40)).drewN n) (w.heap.size + 1) Bl par X i0 i1 := by
  have t : ∀ j, (((w.alloc o).alloc (.cells c 40)).drewN n).cell? ⟨w.heap.size + 1, j, none⟩ = c[j]? := fun j => by
    rw [World.cell?_drewN]
    exact World.cell?_alloc_at (w := w.alloc o) c 40 (w.heap.size + 1) j (by simp)
  exact ⟨(t 0).trans c0, (t 1).trans c1, (t 2).trans c2, (t 33).trans c33, (t 34).trans c34, (t 35).trans c35, (t 36).trans c36, (t 37).trans c37⟩

theorem laid_two (w : World) (o o' : Obj) (n : Nat) : (((w.alloc o).alloc o').drewN n).heap.size = w.heap.size + 2 ∧ Below w.heap.size w (((w.alloc o).alloc o').drewN n) :=
  ⟨by simp, below_drewN (((Below.refl _ _).alloc (Nat.le_refl _) _).alloc (by simp) _) _⟩

theorem Node.drewN {w : World} {b Bl : Nat} {par : Option Addr} {X : Nat} {i0 i1 : Int} (h : Node w b Bl par X i0 i1) (n : Nat) : Node (w.drewN n) b Bl par X i0 i1 := h.of_block rfl

theorem Node.skipSet {w : World} {b Bl : Nat} {par : Option Addr} {X : Nat} {i0 i1 : Int} (h : Node w b Bl par X i0 i1) (Y : Nat) :
    Node (w.setCell ⟨b, 34, none⟩ (.pointer (some ⟨Y, 0, none⟩))) b Bl par Y i0 i1 := by
  have t : ∀ o, o ≠ 34 → (w.setCell ⟨b, 34, none⟩ (.pointer (some ⟨Y, 0, none⟩))).cell? ⟨b, o, none⟩ = w.cell? ⟨b, o, none⟩ := fun o ho => World.cell?_setCell_other _ _ _ _ (by intro e; simp only [Addr.mk.injEq] at e; omega)
  exact ⟨(t 0 (by decide)).trans h.c0, (t 1 (by decide)).trans h.c1, (t 2 (by decide)).trans h.c2, (t 33 (by decide)).trans h.c33, World.cell?_setCell_same _ _ _ h.c34, (t 35 (by decide)).trans h.c35, (t 36 (by decide)).trans h.c36, (t 37 (by decide)).trans h.c37⟩

set_option maxHeartbeats 4000000 in
theorem node_any (B P BP S BS SS BSS : Nat) (i0 i1 hp hs hss : Int) (w : World)
    (lP : P < w.heap.size) (lS : S < w.heap.size) (lSS : SS < w.heap.size) (lBP : BP < w.heap.size) (lBS : BS < w.heap.size) (lBSS : BSS < w.heap.size)
    (cP : w.cell? ⟨P, 0, none⟩ = some (.pointer (some ⟨BP, 0, none⟩))) (cP2 : w.cell? ⟨P, 34, none⟩ = some (.pointer (some ⟨S, 0, none⟩)))
    (cS : w.cell? ⟨S, 0, none⟩ = some (.pointer (some ⟨BS, 0, none⟩))) (cS2 : w.cell? ⟨S, 34, none⟩ = some (.pointer (some ⟨SS, 0, none⟩)))
    (cSS : w.cell? ⟨SS, 0, none⟩ = some (.pointer (some ⟨BSS, 0, none⟩)))
    (eP : w.cell? ⟨BP, 1, none⟩ = some (.int .u64 hp)) (eS : w.cell? ⟨BS, 1, none⟩ = some (.int .u64 hs)) (eSS : w.cell? ⟨BSS, 1, none⟩ = some (.int .u64 hss)) :
    Calls Yba.prog 4 #[.pointer (some ⟨B, 0, none⟩), .agg #[.int .u8 i0, .int .u8 i1, .int .u8 0, .int .u8 0, .int .u8 0, .int .u8 0, .int .u8 0, .int .u8 0, .int .u8 0, .int .u8 0, .int .u8 0, .int .u8 0, .int .u8 0, .int .u8 0, .int .u8 0, .int .u8 0, .int .u8 0, .int .u8 0, .int .u8 0, .int .u8 0, .int .u8 0, .int .u8 0, .int .u8 0, .int .u8 0, .int .u8 0, .int .u8 0, .int .u8 0, .int .u8 0, .int .u8 0, .int .u8 0, .int .u8 0, .int .u8 0], .pointer (some ⟨P, 0, none⟩)] w fun e w' =>
      e = .returned (.pointer (some ⟨w.heap.size + 1, 0, none⟩)) ∧ w'.heap.size = w.heap.size + 2 ∧ Below w.heap.size w w' ∧
      ∃ X, ((IntKind.u64.wrap (hp - hs) == IntKind.u64.wrap (hs - hss)) = true ∧ X = SS ∨ (IntKind.u64.wrap (hp - hs) == IntKind.u64.wrap (hs - hss)) = false ∧ X = P) ∧ Node w' (w.heap.size + 1) B (some ⟨P, 0, none⟩) X i0 i1 := by
  go_enter Yba.func4, Yba.ntmps4
  go_upto_region 2 with (refine wpList_load_row rfl 27 _ rfl w.heap.size rfl 27 _ (0, 0) _ (heap_alloc_new _ _) Yba.underlying27 rfl (by kernel_rfl) ?_)
  go_cut [1, 2, 7, 8] from 9 (fun _ s2 s7 s8 wx => s2 = .pointer (some ⟨P, 0, none⟩) ∧ s7 = .pointer (some ⟨w.heap.size + 1, 0, none⟩) ∧ s8 = .pointer (some ⟨S, 0, none⟩) ∧ wx.frozen? ⟨w.heap.size + 1, 34, none⟩ = false ∧ wx.heap.size = w.heap.size + 2 ∧ Below w.heap.size w wx ∧ Node wx (w.heap.size + 1) B (some ⟨P, 0, none⟩) P i0 i1)
  case first =>
    go_wp2
    go_meet
    case rel => exact ⟨rfl, rfl, rfl, by simp [go_sem], (laid_two _ _ _ 0).1, (laid_two _ _ _ 0).2, node_new _ _ 0 _ _ _ _ _ _ rfl rfl rfl rfl rfl rfl rfl rfl⟩
  case rest =>
    obtain ⟨rfl, rfl, rfl, f34, hsz, hbel, hnd⟩ := hcut
    have k : ∀ b o v, b < w.heap.size → w.cell? ⟨b, o, none⟩ = some v → wc.cell? ⟨b, o, none⟩ = some v := fun b o v hb hv => (hbel.cell (p := ⟨b, o, none⟩) hb).trans hv
    have cP' := k _ _ _ lP cP
    have cP2' := k _ _ _ lP cP2
    have cS' := k _ _ _ lS cS
    have cS2' := k _ _ _ lS cS2
    have cSS' := k _ _ _ lSS cSS
    have eP' := k _ _ _ lBP eP
    have eS' := k _ _ _ lBS eS
    have eSS' := k _ _ _ lBSS eSS
    have c34' := hnd.c34
    have H : Hid (wc.heap.size = w.heap.size + 2 ∧ Below w.heap.size w wc ∧ Node wc (w.heap.size + 1) B (some ⟨P, 0, none⟩) P i0 i1) := ⟨hsz, hbel, hnd⟩
    clear hsz hbel hnd k cP cP2 cS cS2 cSS eP eS eSS
    go_wp2
    go_quiet (fail)
    go_wp2
    · have hc : (IntKind.u64.wrap (hp - hs) == IntKind.u64.wrap (hs - hss)) = true := by assumption
      go_ret
      exact ⟨rfl, by rw [World.size_setCell]; exact H.out.1, (below_drewN H.out.2.1 _).setCell (Nat.le_succ _) _, SS, .inl ⟨hc, rfl⟩, (H.out.2.2.drewN _).skipSet SS⟩
    · have hc : (IntKind.u64.wrap (hp - hs) == IntKind.u64.wrap (hs - hss)) = false := by assumption
      go_ret
      exact ⟨rfl, H.out.1, below_drewN H.out.2.1 _, P, .inr ⟨hc, rfl⟩, H.out.2.2.drewN _⟩
end Go.Proofs.Ybulkaxtw
