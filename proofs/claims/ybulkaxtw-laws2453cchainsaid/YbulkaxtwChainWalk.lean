/-
  THE WALK OF LawS2453CChain (function 3): it returns true, and writes nothing that was there. newNode and zzs2453cspan by their contracts; the chain by 'Inv'.
-/
import Derived.Test.YbulkaxtwNode
import Derived.Test.YbulkaxtwRound
import Derived.Test.YbulkaxtwSpan
import Derived.Laws.Tables
import Derived.Deep.CutRange
import Derived.Deep.LoopGhost
import Derived.Deep.RegionWith
import Derived.Deep.MidRow
import Derived.Maps.AppendAt
import Derived.Deep.RegionHeld
namespace Go.Proofs.Ybulkaxtw.lawS2453CChain
open Go.ChangeShapes Go.WideShapes Go.ChangeAt Go.RowKit
set_option linter.unusedVariables false

set_option maxHeartbeats 4000000 in
set_option maxRecDepth 100000 in
theorem walk (a0 : Int) (a1 : Int) (w0 : (Lit.int .u64 a0).wf = true) (w1 : (Lit.int .u16 a1).wf = true) (w : World) :
    Calls Yba.prog 3 #[.int .u64 a0, .int .u16 a1] w fun e w' => e = .returned (.bool true) ∧ Below w.heap.size w w' := by
  obtain ⟨p0, q0⟩ := bounds_u64 w0
  obtain ⟨p1, q1⟩ := bounds_u16 w1
  clear w0 w1
  obtain ⟨cnt, hcnt, hc⟩ : ∃ cnt : Nat, a1 % 1025 = (cnt : Int) ∧ cnt ≤ 1024 := ⟨(a1 % 1025).toNat, by omega, by omega⟩
  obtain ⟨Z, hZ, hZs, hZne⟩ := zero_block
  obtain ⟨Y, hY, hYs, hYne, d1, d2, d33, d34, d35, d36, d37⟩ := zero_node
  go_enter Yba.func3, Yba.ntmps3
  go_upto_region 3 with fail
  go_cut [5, 6] from 16 (fun s5 s6 wx => s5 = .int .i64 (cnt : Int) ∧ s6 = .pointer (some ⟨w.heap.size + 1, 0, none⟩) ∧ wx.heap.size = w.heap.size + 2 ∧ Below w.heap.size w wx ∧ Node wx (w.heap.size + 1) w.heap.size none (w.heap.size + 1) 0 0 ∧ wx.cell? ⟨w.heap.size, 1, none⟩ = some (.int .u64 a0))
  case first =>
    go_wp2
    go_meet
    case rel => exact ⟨by rw [hcnt], rfl, root_laid w Z Y a0 hZs hYs d1 d2 d33 d35 d36 d37 _ rfl⟩
  case rest =>
    clear hYne d1 d2 d33 d34 d35 d36 d37 hY hYs
    obtain ⟨rfl, rfl, hsz, hbel, hnd, hht⟩ := hcut
    have HC : Hid (a1 % 1025 = (cnt : Int)) := hcnt
    have H0 : Hid (wc.heap.size = w.heap.size + 2 ∧ Below w.heap.size w wc ∧ Node wc (w.heap.size + 1) w.heap.size none (w.heap.size + 1) 0 0 ∧ wc.cell? ⟨w.heap.size, 1, none⟩ = some (.int .u64 a0)) := ⟨hsz, hbel, hnd, hht⟩
    have hle : w.heap.size ≤ wc.heap.size := by omega
    clear hcnt hsz hbel hnd hht
    obtain ⟨i24, hi24, hz24, hs24, hb24⟩ := info_parts Yba.info24
    obtain ⟨i25, hi25, hz25, hs25, hb25⟩ := info_parts Yba.info25
    go_upto_region 5 with (at_make; refine wpList_make_own _ rfl (.const (.int .i64 0)) (.tmp 29) 41 rfl w.heap.size 24 i24 (.pointer none) 1 Yba.underlying41 hi24 hz24 hs24 .i64 .i64 _ (cnt + 1) rfl rfl (by omega) (by rw [hb24]; omega) (by unfold maxLen; omega) hle ?_; intro w1 hown1 hg1)
    have hle1 : w.heap.size ≤ w1.heap.size := Nat.le_trans hle hg1.size
    go_upto_region 6 with (at_make; refine wpList_make_own _ rfl (.const (.int .i64 0)) (.tmp 32) 42 rfl w.heap.size 25 i25 (.pointer none) 1 Yba.underlying42 hi25 hz25 hs25 .i64 .i64 _ (cnt + 1) rfl rfl (by omega) (by rw [hb25]; omega) (by unfold maxLen; omega) hle1 ?_; intro w2 hown2 hg2)
    have hN2 : w2.ownsRow w.heap.size 24 1 (.slice (some ⟨wc.heap.size, 0, none⟩) 0 (cnt + 1)) 0 [] := hown1.kept hg2 (Or.inr (by simp [Value.ownBlock]))
    go_upto_region 7 with (at_builtin; refine wpList_append_fits _ rfl (.tmp 34) (.tmp 36) 41 rfl w.heap.size 24 i24 1 Yba.underlying41 hi24 hs24 wc.heap.size 0 (cnt + 1) [] rfl (hN2.alloc _) ⟨w2.heap.size, 0, none⟩ 1 1 [ptr (w.heap.size + 1)] rfl rfl (cell_one_new _ _ _) (by simp [Value.oneCell', ptr]) (by omega) ?_; intro w4 hown4 hg4)
    have hB2 : w2.ownsRow w.heap.size 25 1 (.slice (some ⟨w1.heap.size, 0, none⟩) 0 (cnt + 1)) 0 [] := hown2
    have hB4 : w4.ownsRow w.heap.size 25 1 (.slice (some ⟨w1.heap.size, 0, none⟩) 0 (cnt + 1)) 0 [] := (hown2.alloc _).kept hg4 (Or.inr (by have := own_at hown1; simp [Value.ownBlock]; omega))
    have c4 : w4.cell? ⟨w.heap.size + 1, 0, none⟩ = some (.pointer (some ⟨w.heap.size, 0, none⟩)) := root_cell H0.out hown1 hg1 hg2 hg4
    clear hB2 hN2
    go_cut [7, 8] from 16 (fun s7 s8 wx => ∃ gN gB : Nat, s7 = .slice (some ⟨gN, 0, none⟩) 1 (cnt + 1) ∧ s8 = .slice (some ⟨gB, 0, none⟩) 1 (cnt + 1) ∧ ∃ N K, N 0 = w.heap.size + 1 ∧ Inv w wx a0 cnt gN gB 0 N K)
    case first =>
      go_wp2_with (at_builtin; refine wpList_append_fits _ rfl (.tmp 38) (.tmp 43) 42 rfl w.heap.size 25 i25 1 Yba.underlying42 hi25 hs25 w1.heap.size 0 (cnt + 1) [] rfl (hB4.alloc _) ⟨w4.heap.size, 0, none⟩ 1 1 [ptr w.heap.size] rfl rfl (cell_one_new _ _ _) (by simp [Value.oneCell', ptr]) (by omega) ?_; intro w6 hown6 hg6)
      go_meet
      case rel => exact ⟨_, _, rfl, rfl, _, _, rfl, inv_start p0 q0 H0.out hown1 hg1 hg2 hown4 hg4 hown6 hg6⟩
    case rest =>
      clear hown1 hown2 hown4 hg1 hg2 hg4 hB4 c4 H0 hle hle1
      obtain ⟨gN, gB, rfl, rfl, HI⟩ := hcut
      have HI' : Hid (∃ N K, N 0 = w.heap.size + 1 ∧ Inv w wc a0 cnt gN gB 0 N K) := HI
      clear HI
      go_wp2_with fail
      go_loopg [7, 8, 9] cnt (fun g v7 v8 v9 wr => ∃ k : Nat, k + g = cnt ∧ v9 = .int .i64 ((k : Int) + 1) ∧ v7 = .slice (some ⟨gN, 0, none⟩) (k + 1) (cnt + 1) ∧ v8 = .slice (some ⟨gB, 0, none⟩) (k + 1) (cnt + 1) ∧ Hid (∃ N K, N 0 = w.heap.size + 1 ∧ Inv w wr a0 cnt gN gB k N K))
      case atStart => exact ⟨0, by omega, rfl, rfl, rfl, HI'⟩
      case round =>
        clear HI'
        obtain ⟨k, hk, rfl, rfl, rfl, H⟩ := hrel
        by_cases hlt : k < cnt
        · go_upto_region 14 with fail
          go_cut [10, 11] from 45 to 82 (fun s10 s11 wx => s10 = .pointer (some ⟨wr.heap.size, 0, none⟩) ∧ s11 = .pointer (some ⟨wr.heap.size + 1, 0, none⟩) ∧ Mid wr wx a0 k)
          case first =>
            go_wp2
            go_meet
            case rel => exact ⟨rfl, rfl, mid_laid wr _ a0 k hZs⟩
          case rest =>
            clear hZ hZs hZne
            obtain ⟨rfl, rfl, hmid⟩ := hcut
            obtain ⟨wx, rfl⟩ : ∃ wx : World, wx = wc := ⟨_, rfl⟩
            obtain ⟨N, K, hN0, hI⟩ := H.out
            have hcell : wx.cell? ⟨gN, k, none⟩ = some (.pointer (some ⟨N k, 0, none⟩)) := mid_cell (n := 0) hmid hI
            have hrange := mid_range hmid
            have l1 : wr.heap.size + 1 < wx.heap.size := by have := hmid.size; omega
            have l2 : gN < wx.heap.size := by have := hmid.size; have := hI.gNlt; omega
            have hcall := hidden (node_call hmid hI (by omega))
            have hu27 := Yba.underlying27
            have hwk : IntKind.i64.wrap (k : Int) = (k : Int) := by rw [IntKind.wrap_i64]; omega
            have hwk1 : IntKind.i64.wrap ((k : Int) + 1 - 1) = (k : Int) := by rw [IntKind.wrap_i64]; omega
            have hk0 : (0 : Int) ≤ (k : Int) := by omega
            have hk1 : (k : Int) < (k : Int) + 1 := by omega
            have hi27 : (Yba.prog.info? 27).map (·.size) = some ([.int .u8 (((k : Int) + 1) % 256), .int .u8 (((k : Int) + 1) / 256), .int .u8 0, .int .u8 0, .int .u8 0, .int .u8 0, .int .u8 0, .int .u8 0, .int .u8 0, .int .u8 0, .int .u8 0, .int .u8 0, .int .u8 0, .int .u8 0, .int .u8 0, .int .u8 0, .int .u8 0, .int .u8 0, .int .u8 0, .int .u8 0, .int .u8 0, .int .u8 0, .int .u8 0, .int .u8 0, .int .u8 0, .int .u8 0, .int .u8 0, .int .u8 0, .int .u8 0, .int .u8 0, .int .u8 0, .int .u8 0] : List Value).length := by kernel_rfl
            have hM : Hid (Mid wr wx a0 k) := hmid
            have hII : Hid (N 0 = w.heap.size + 1 ∧ Inv w wr a0 cnt gN gB k N K) := ⟨hN0, hI⟩
            clear hmid hI hN0
            go_upto_region 15 with fail
            go_cut [12] from 45 to 82 (fun s12 wy => s12 = .pointer (some ⟨wx.heap.size + 1, 0, none⟩) ∧ Hid (Aft wr wx wy a0 k N))
            case first =>
              go_region_held (fun w' => w'.rangeAt (wr.heap.size + 1) 0 [.int .u8 (((k : Int) + 1) % 256), .int .u8 (((k : Int) + 1) / 256), .int .u8 0, .int .u8 0, .int .u8 0, .int .u8 0, .int .u8 0, .int .u8 0, .int .u8 0, .int .u8 0, .int .u8 0, .int .u8 0, .int .u8 0, .int .u8 0, .int .u8 0, .int .u8 0, .int .u8 0, .int .u8 0, .int .u8 0, .int .u8 0, .int .u8 0, .int .u8 0, .int .u8 0, .int .u8 0, .int .u8 0, .int .u8 0, .int .u8 0, .int .u8 0, .int .u8 0, .int .u8 0, .int .u8 0, .int .u8 0] ∧ w'.cell? ⟨gN, k, none⟩ = some (.pointer (some ⟨N k, 0, none⟩))) (first | exact ⟨hrange, hcell⟩ | exact held_after hrange hcell haft.below l1 l2) ((go_at_call 4; refine hcall.out.mono ?_; rintro e w3 ⟨rfl, haft⟩))
              go_wp2
              go_meet
              case rel => exact ⟨rfl, haft⟩
            case rest =>
              obtain ⟨rfl, HA⟩ := hcut
              have hN3 := hN_aft hM.out hII.out.2 HA.out
              have hB3 := hB_aft hM.out hII.out.2 HA.out
              clear hcell hrange l1 l2 hcall hu27 hi27 hwk hwk1
              go_upto_region 19 with (at_builtin; refine wpList_append_fits _ rfl (.tmp 75) (.tmp 77) 41 rfl w.heap.size 24 i24 1 Yba.underlying41 hi24 hs24 gN (k + 1) (cnt + 1) (ptrs N (k + 1)) rfl (hN3.alloc _) ⟨wc.heap.size, 0, none⟩ 1 1 [ptr (wx.heap.size + 1)] rfl rfl (cell_one_new _ _ _) (by simp [Value.oneCell', ptr]) (by omega) ?_; intro w4 hown4 hg4)
              have hB4 : w4.ownsRow w.heap.size 25 1 (.slice (some ⟨gB, 0, none⟩) (k + 1) (cnt + 1)) (k + 1) (ptrs K (k + 1)) := (hB3.alloc _).kept hg4 (Or.inr (by have := hII.out.2.ne; simp [Value.ownBlock]; omega))
              clear hN3 hB3
              go_wp2_with (at_builtin; refine wpList_append_fits _ rfl (.tmp 79) (.tmp 81) 42 rfl w.heap.size 25 i25 1 Yba.underlying42 hi25 hs25 gB (k + 1) (cnt + 1) (ptrs K (k + 1)) rfl (hB4.alloc _) ⟨w4.heap.size, 0, none⟩ 1 1 [ptr wr.heap.size] rfl rfl (cell_one_new _ _ _) (by simp [Value.oneCell', ptr]) (by omega) ?_; intro w5 hown5 hg5)
              go_roundg (gk - 1)
              case measure => omega
              case rel => exact ⟨k + 1, by omega, by go_num, rfl, rfl, ⟨_, _, (upd_lt N (k + 1) _ 0 (by omega)).trans hII.out.1, round_end hM.out hII.out.2 HA.out (by omega) hown4 hg4 hown5 hg5⟩⟩
        · obtain rfl : k = cnt := by omega
          obtain ⟨N, K, hN0, hI⟩ := H.out
          have n0 := hI.node 0 (by omega)
          rw [hN0] at n0
          have c33 := n0.c33
          have c34 := n0.c34
          have h00 : N (Plain.skipOf 0) = w.heap.size + 1 := hN0
          rw [h00] at c34
          have hp0 : parOf N 0 = none := rfl
          rw [hp0] at c33
          have hII : Hid (Inv w wr a0 k gN gB k N K) := hI
          clear hI n0 hN0 h00 hp0 H hlt hk
          have hq24 := neq24
          have hq25 := neq25
          have hq38 := neq38
          go_wp2_with fail
          clear c33 c34
          go_loopg [13] k (fun g v13 wq => ∃ j : Nat, j + g = k ∧ v13 = .int .i64 ((j : Int) + 1) ∧ ∃ n, wq = wr.drewN n)
          case atStart => exact ⟨0, by omega, rfl, 0, rfl⟩
          case round =>
            obtain ⟨j, hj, rfl, n, rfl⟩ := hrel
            by_cases hlt : j < k
            · have nd := hII.out.node (j + 1) (by omega)
              have c0 := nd.c0
              have c1 := nd.c1
              have c2 := nd.c2
              have c33 : wr.cell? ⟨N (j + 1), 33, none⟩ = some (.pointer (some ⟨N j, 0, none⟩)) := nd.c33
              have c34 := nd.c34
              have c35 := nd.c35
              have c36 := nd.c36
              have c37 := nd.c37
              have hcast : (((j + 1 : Nat) : Int)) = (j : Int) + 1 := by omega
              rw [hcast] at c1 c2
              have b0 := row_cell hII.out.rowN (j + 1) (by omega)
              have b1 := row_cell hII.out.rowN j (by omega)
              have b2 := row_cell hII.out.rowB (j + 1) (by omega)
              have sb := Plain.span_bounds (j + 1) (by omega) (by omega)
              have b3 := row_cell hII.out.rowN (Plain.skipOf (j + 1)) (by have := Plain.skip_le (j + 1); omega)
              have hcall := hidden (fun wz => span_any (j + 1) (by omega) wz)
              rw [hcast] at hcall
              have hs : ((j : Int) + 1) - (Plain.span (j + 1) : Int) = (Plain.skipOf (j + 1) : Int) := by unfold Plain.skipOf; omega
              generalize Plain.skipOf (j + 1) = sk at c34 b3 hs
              generalize Plain.span (j + 1) = sp at hcall hs sb
              generalize N (j + 1) = Nj at c0 c1 c2 c33 c34 c35 c36 c37 b0
              clear nd hcast
              go_upto_region 26 with fail
              go_quiet (fail)
              go_upto_region 35 with (go_at_call 5; refine (hcall.out _).mono ?_; rintro e w' ⟨rfl, rfl⟩)
              have x1 : IntKind.i64.wrap (sp : Int) = (sp : Int) := by rw [IntKind.wrap_i64]; omega
              have x2 : IntKind.i64.wrap ((j : Int) + 1 - (sp : Int)) = (sk : Int) := by rw [hs, IntKind.wrap_i64]; omega
              have x3 : IntKind.i64.wrap (sk : Int) = (sk : Int) := by rw [IntKind.wrap_i64]; omega
              have x4 : (sk : Int) < (k : Int) + 1 := by omega
              have x5 : (0 : Int) ≤ (sk : Int) := by omega
              go_quiet (fail)
              go_wp2
              go_roundg (gk - 1)
              case measure => omega
              case rel => exact ⟨j + 1, by omega, by go_num, _, rfl⟩
            · go_wp2
              go_ret
              exact ⟨rfl, below_drewN hII.out.below _⟩
end Go.Proofs.Ybulkaxtw.lawS2453CChain
