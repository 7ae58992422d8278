/-
  THE CONTRACTS OF THE THREE CALLEES: zzs2454cindex (6), stepWithHighs (7), zzs2454cpad (5). Of pad it is told that it makes two rows of its own, of the length of e, with numbers of their kinds in them; what they are the laws do not ask.
-/
import Derived.Test.YbulkaxukRows
import Derived.WalkKit
import Derived.ProofKit
import Derived.OpenShut
import Derived.ShutString
import Derived.Handy
import Derived.Deep.QuietTactic
import Derived.BigQuiet
import Derived.Deep.OwnRows
import Derived.WalkSmall
import Derived.Laws.CopyOwn
import Derived.Laws.BitsAllLaws
import Derived.Deep.CutRange
import Derived.Laws.Rows
namespace Go.Proofs.Ybulkaxuk
open Go.ChangeShapes Go.WideShapes Go.ChangeAt Go.RowKit
set_option linter.unusedVariables false

theorem ret_int {k : IntKind} {a b : Int} (h : a = b) : Ending.returned (.int k a) = .returned (.int k b) := by rw [h]

theorem and32 (v : Int) (h0 : 0 ≤ v) (h1 : v < 18446744073709551616) : bits .and .u64 v 4294967295 = v % 4294967296 := by
  obtain ⟨n, rfl⟩ := Int.eq_ofNat_of_zero_le h0
  have h := u64_and_nat n 4294967295 (by omega) (by omega)
  have e : n &&& 4294967295 = n % 4294967296 := Nat.and_two_pow_sub_one_eq_mod n 32
  rw [e] at h
  have h' : bits .and .u64 (n : Int) 4294967295 = ((n % 4294967296 : Nat) : Int) := h
  rw [h']
  omega

theorem and10 (v : Int) (h0 : 0 ≤ v) (h1 : v < 4294967296) : bits .and .u32 v 1023 = v % 1024 := by
  obtain ⟨n, rfl⟩ := Int.eq_ofNat_of_zero_le h0
  have h := u32_and_nat n 1023 (by omega) (by omega)
  have e : n &&& 1023 = n % 1024 := Nat.and_two_pow_sub_one_eq_mod n 10
  rw [e] at h
  have h' : bits .and .u32 (n : Int) 1023 = ((n % 1024 : Nat) : Int) := h
  rw [h']
  omega

set_option maxHeartbeats 1000000 in
theorem index_any (x hi b : Int) (hx : 0 ≤ x ∧ x ≤ 4294967295) (hh : 0 ≤ hi ∧ hi ≤ 4294967295) (hb : 0 ≤ b ∧ b ≤ 255) (w : World) :
    Calls Yba.prog 6 #[.int .u32 x, .int .u32 hi, .int .u8 b] w fun e w' => e = .returned (.int .u64 ((x / 1024 + hi + b) % 4294967296 + 1)) ∧ w' = w := by
  go_enter Yba.func6, Yba.ntmps6
  go_wp2
  go_ret
  exact ⟨ret_int (by rw [and32 _ (by omega) (by omega), IntKind.wrap_u64]; omega), rfl⟩

set_option maxHeartbeats 1000000 in
theorem step_out (ao ah : Option Addr) (n : Nat) (x hi b tag : Int) (hx : 0 ≤ x ∧ x ≤ 4294967295) (hh : 0 ≤ hi ∧ hi ≤ 4294967295) (hb : 0 ≤ b ∧ b ≤ 255) (hn : n ≤ 1024) (w : World)
    (hout : (n : Int) ≤ (x / 1024 + hi + b) % 4294967296 + 1) :
    Calls Yba.prog 7 #[.slice ao n n, .slice ah n n, .int .u32 x, .int .u32 hi, .int .u8 b, .int .i64 tag] w fun e w' => e = .returned (.tuple #[.int .u32 0, .int .u32 0, .bool false]) ∧ w' = w := by
  go_enter Yba.func7, Yba.ntmps7
  go_wp2
  go_ret3
  exact ⟨rfl, rfl⟩

set_option maxHeartbeats 1000000 in
theorem step_in (gE gH n T : Nat) (x hi b tag y g : Int) (c : Bool) (hx : 0 ≤ x ∧ x ≤ 4294967295) (hh : 0 ≤ hi ∧ hi ≤ 4294967295) (hb : 0 ≤ b ∧ b ≤ 255) (hn : n ≤ 1024) (hg : 0 ≤ g ∧ g ≤ 65535) (w : World)
    (hT : (x / 1024 + hi + b) % 4294967296 + 1 = (T : Int)) (hlt : T < n) (cE : w.cell? ⟨gE, T, none⟩ = some (.int .u32 y)) (cH : w.cell? ⟨gH, T, none⟩ = some (.int .u16 g))
    (hc : (wrap64 (bits .and .u32 y 1023) == bits .or .i64 (b + 1) (wrap64 (tag * 512))) = c) :
    Calls Yba.prog 7 #[.slice (some ⟨gE, 0, none⟩) n n, .slice (some ⟨gH, 0, none⟩) n n, .int .u32 x, .int .u32 hi, .int .u8 b, .int .i64 tag] w fun e w' => e = .returned (.tuple #[.int .u32 y, .int .u32 (g * 4194304 % 4294967296), .bool c]) ∧ ∃ n, w' = w.drewN n := by
  have hlt' : (T : Int) < (n : Int) := by omega
  have HC : Hid ((wrap64 (bits .and .u32 y 1023) == bits .or .i64 (b + 1) (wrap64 (tag * 512))) = c) := hc
  clear hc
  go_enter Yba.func7, Yba.ntmps7
  go_wp2
  go_quiet (fail)
  go_wp2
  go_ret3
  rw [← HC.out]
  exact ⟨rfl, _, rfl⟩

/-- WHAT THE WALK IS TOLD OF A SLICE OF INTEGERS THAT CAME IN: it is nil; or it leads to a row of 'cap' cells, the numbers 'zs' (the first 'len' are its elements, the rest its spare room), each fitting its kind. -/
def IsRow (k : IntKind) (w : World) (a : Option Addr) (len cap : Nat) (zs : List Int) : Prop :=
  (a = none ∧ len = 0 ∧ cap = 0 ∧ zs = []) ∨
  ∃ x, a = some x ∧ len ≤ cap ∧ cap ≤ maxLen ∧ zs.length = cap ∧ (∀ i, i < zs.length → w.cell? (x.add i) = some (.int k (zs.getD i 0))) ∧ ∀ n ∈ zs, (Lit.int k n).wf = true

theorem Yba.info24 : (Yba.prog.info? 24).map (fun i => (i.zero, i.size, i.bytes)) = some (some (.int .u32 0), 1, 4) := by kernel_rfl
theorem Yba.info31 : (Yba.prog.info? 31).map (fun i => (i.zero, i.size, i.bytes)) = some (some (.int .u16 0), 1, 2) := by kernel_rfl
theorem Yba.size24 : (Yba.prog.info? 24).map (·.size) = some 1 := by kernel_rfl

theorem hidden {p : Prop} (h : p) : Hid p := h

theorem row_max {k : IntKind} {w : World} {a : Option Addr} {len cap : Nat} {zs : List Int} (h : IsRow k w a len cap zs) : len ≤ maxLen := by
  rcases h with ⟨_, rfl, _, _⟩ | ⟨x, _, hl, hm, _⟩
  · exact Nat.zero_le _
  · omega

/-- What zzs2454cpad leaves: two rows of n numbers each, of its own. -/
structure Pad (w w' : World) (n gE gH : Nat) (F G : Nat → Int) : Prop where
  below : Below w.heap.size w w'
  rowE : w'.rowIs gE 24 n (fun i => .int .u32 (F i))
  rowH : w'.rowIs gH 31 n (fun i => .int .u16 (G i))
  ne : gE ≠ gH
  loE : w.heap.size ≤ gE
  loH : w.heap.size ≤ gH
  bE : ∀ i, 0 ≤ F i ∧ F i ≤ 4294967295
  bH : ∀ i, 0 ≤ G i ∧ G i ≤ 65535

/-- The numbers of a row, within their kind: those that are there. -/
theorem row_src {k : IntKind} {w : World} {a : Option Addr} {len cap : Nat} {zs : List Int} (h : IsRow k w a len cap zs) :
    len ≤ zs.length ∧ (0 < len → ∃ b off, a = some ⟨b, off, none⟩ ∧ b < w.heap.size ∧ ∀ j, j < len → w.cell? ⟨b, off + j, none⟩ = some (.int k (zs.getD j 0))) ∧ ∀ n ∈ zs, (Lit.int k n).wf = true := by
  rcases h with ⟨rfl, rfl, rfl, rfl⟩ | ⟨x, rfl, hl, hm, hz, hc, hw⟩
  · exact ⟨by simp, fun h => by omega, by simp⟩
  · refine ⟨by omega, fun h => ?_, hw⟩
    obtain ⟨b, off, rfl, hc'⟩ := ints_at hc (by omega)
    exact ⟨b, off, rfl, World.block_lt_of_cell? _ _ (hc' 0 (by omega)), fun j hj => hc' j (by omega)⟩

/-- A list's numbers, nought behind its end. -/
theorem getD_bounds {k : IntKind} {zs : List Int} {lo hi : Int} (h : ∀ n ∈ zs, lo ≤ n ∧ n ≤ hi) (h0 : lo ≤ 0 ∧ 0 ≤ hi) (i : Nat) : lo ≤ zs.getD i 0 ∧ zs.getD i 0 ≤ hi := by
  by_cases hi : i < zs.length
  · rw [List.getD_eq_getElem?_getD, List.getElem?_eq_getElem hi]
    exact h _ (List.getElem_mem hi)
  · rw [List.getD_eq_getElem?_getD, List.getElem?_eq_none (by omega)]
    exact h0

theorem copied {w2 : World} {g len0 : Nat} {z0 : List Int} {X C : List Value} (hX : X = (z0.take len0).map (Value.int .u32) ∧ X.length = len0) (hC : C.length = len0)
    (h : w2.heap[g]? = some (.cells (splice C 0 X).toArray 24 (0, 0))) : w2.rowIs g 24 len0 (fun i => .int .u32 (z0.getD i 0)) := by
  obtain ⟨rfl, hl⟩ := hX
  refine ⟨_, h, ?_, ?_⟩
  · simp [splice, hC]
    simp at hl; omega
  · intro i hi
    have e : splice C 0 ((z0.take len0).map (Value.int .u32)) = (z0.take len0).map (Value.int .u32) := by
      unfold splice
      rw [List.drop_eq_nil_of_le (by omega)]
      simp
    rw [e]
    simp at hl
    have hz : i < z0.length := by omega
    simp [hi, hz]

theorem pad_start {w w2 : World} {n : Nat} {F : Nat → Int} (hb : Below w.heap.size w w2) (hr : w2.rowIs w.heap.size 24 n (fun i => .int .u32 (F i))) (hF : ∀ i, 0 ≤ F i ∧ F i ≤ 4294967295) :
    Pad w (w2.alloc (.cells (madeCells #[.int .u16 0] n) 31)) n w.heap.size w2.heap.size F (fun _ => 0) := by
  have hz := hr.lt
  exact ⟨hb.alloc hb.size _, hr.alloc _, World.rowIs_made _ _ _ _, by omega, Nat.le_refl _, hb.size, hF, fun _ => by omega⟩

theorem pad_set {w wr : World} {n gE gH : Nat} {F G : Nat → Int} (h : Pad w wr n gE gH F G) (k : Nat) (v : Int) (hv : 0 ≤ v ∧ v ≤ 65535) :
    Pad w (wr.setCell ⟨gH, k, none⟩ (.int .u16 v)) n gE gH F (fun i => if i = k then v else G i) := by
  refine ⟨h.below.setCell h.loH _, h.rowE.setOther h.ne _, (h.rowH.set k _).congr ?_, h.ne, h.loE, h.loH, h.bE, ?_⟩
  · intro i _
    by_cases e : i = k <;> simp [e]
  · intro i
    by_cases e : i = k
    · simp [e, hv]
    · simpa [e] using h.bH i

set_option maxHeartbeats 2000000 in
theorem pad_any (a0 : Option Addr) (len0 cap0 : Nat) (z0 : List Int) (a1 : Option Addr) (len1 cap1 : Nat) (z1 : List Int) (w : World) (h0 : IsRow .u32 w a0 len0 cap0 z0) (h1 : IsRow .u16 w a1 len1 cap1 z1) (hl : len0 ≤ 1024) (hl1 : len1 ≤ maxLen) :
    Calls Yba.prog 5 #[.slice a0 len0 cap0, .slice a1 len1 cap1] w fun e w' =>
      ∃ gE gH F G, e = .returned (.tuple #[.slice (some ⟨gE, 0, none⟩) len0 len0, .slice (some ⟨gH, 0, none⟩) len0 len0]) ∧ Pad w w' len0 gE gH F G := by
  obtain ⟨s0, c0, b0⟩ := row_src h0
  obtain ⟨s1, c1, b1⟩ := row_src h1
  clear h0 h1
  unfold maxLen at hl1
  have B0 : Hid (∀ i, 0 ≤ z0.getD i 0 ∧ z0.getD i 0 ≤ 4294967295) := getD_bounds (k := .u32) (fun n hn => bounds_u32 (b0 n hn)) (by omega)
  have B1 : Hid (∀ i, 0 ≤ z1.getD i 0 ∧ z1.getD i 0 ≤ 65535) := getD_bounds (k := .u16) (fun n hn => bounds_u16 (b1 n hn)) (by omega)
  have hmk := run_make_row' (P := Yba.prog) 22 24 (.int .u32 0) 4 Yba.underlying22 Yba.info24 rfl .i64 .i64 len0 (by omega) (by omega)
  have hmk2 := run_make_row' (P := Yba.prog) 23 31 (.int .u16 0) 2 Yba.underlying23 Yba.info31 rfl .i64 .i64 len0 (by omega) (by omega)
  obtain ⟨X, hX⟩ : ∃ X : List Value, X = (z0.take len0).map (Value.int .u32) := ⟨_, rfl⟩
  have hXl : X.length = len0 := by rw [hX]; simp; omega
  have hX1 : ∀ v ∈ X, v.oneCell' = true := by rw [hX]; intro v hv; simp only [List.mem_map] at hv; obtain ⟨n, _, rfl⟩ := hv; rfl
  have hsrc : 0 < X.length → ∃ ad, a0 = some ad ∧ ∀ j v, X[j]? = some v → (w.alloc (.cells (madeCells #[.int .u32 0] len0) 24)).cell? (ad.add j) = some v := by
    intro hp
    obtain ⟨b, off, rfl, hb, hc⟩ := c0 (by omega)
    refine ⟨_, rfl, fun j v hv => ?_⟩
    have hj : j < len0 := by rw [← hXl]; exact (List.getElem?_eq_some_iff.1 hv).1
    have hjz : j < z0.length := by omega
    rw [add_plain, World.cell?_alloc_lt _ _ _ (by exact hb), hc j hj, ← hv, hX]
    simp [hj, hjz]
  have HQ : Hid ((X = (z0.take len0).map (Value.int .u32) ∧ X.length = len0) ∧ (∀ v ∈ X, v.oneCell' = true) ∧ (0 < X.length → ∃ ad, a0 = some ad ∧ ∀ j v, X[j]? = some v → (w.alloc (.cells (madeCells #[.int .u32 0] len0) 24)).cell? (ad.add j) = some v)) := ⟨⟨hX, hXl⟩, hX1, hsrc⟩
  have HC1 : Hid (0 < len1 → ∃ b off, a1 = some ⟨b, off, none⟩ ∧ b < w.heap.size ∧ ∀ j, j < len1 → w.cell? ⟨b, off + j, none⟩ = some (.int .u16 (z1.getD j 0))) := c1
  clear hX hXl hX1 hsrc c0 c1 b0 b1
  go_enter Yba.func5, Yba.ntmps5
  go_upto_region 3 with (refine wpList_copy_splice rfl (.tmp 12) (.tmp 13) 22 22 rfl 24 Yba.underlying22 Yba.size24 _ _ _ _ _ _ rfl rfl w.heap.size 0 (madeCells #[.int .u32 0] len0).toList 24 (by rw [Array.toArray_toList]; exact heap_alloc_new _ _) X (by rw [HQ.out.1.2]; simp) (fun h => ⟨rfl, HQ.out.2.2 h⟩) (by rw [HQ.out.1.2]; simp [size_madeCells]) HQ.out.2.1 w.heap.size w ((Below.refl _ _).alloc (Nat.le_refl _) _) (Nat.le_refl _) ?_; intro w2 HG2 hB2)
  have rE := copied HQ.out.1 (by simp [size_madeCells]) HG2.out
  have hz := rE.lt
  have RE : Hid (w2.rowIs w.heap.size 24 len0 (fun i => .int .u32 (z0.getD i 0)) ∧ Below w.heap.size w w2) := ⟨rE, hB2⟩
  clear rE hB2 HG2 HQ hmk
  go_wp2
  go_loopw [8] (fun i wr => ∃ k : Nat, k ≤ len0 ∧ i = .int .i64 (k : Int) ∧ Hid (∃ G, Pad w wr len0 w.heap.size w2.heap.size (fun i => z0.getD i 0) G)) (fun i _ => len0 - (intOf i).toNat)
  case atStart => exact ⟨0, by omega, rfl, fun _ => 0, pad_start RE.out.2 RE.out.1 B0.out⟩
  case round =>
    clear hmk2
    obtain ⟨k, hk, rfl, H⟩ := hrel
    by_cases hlt : k < len0
    · by_cases hlt1 : k < len1
      · obtain ⟨G, hP⟩ := H.out
        obtain ⟨b, off, rfl, hb, hc⟩ := HC1.out (by omega)
        have c1 : wr.cell? ⟨b, off + k, none⟩ = some (.int .u16 (z1.getD k 0)) := (hP.below.cell (p := ⟨b, off + k, none⟩) hb).trans (hc k hlt1)
        have c2 := hP.rowH.cell hlt
        have f2 := hP.rowH.frozen k
        have hv := B1.out k
        generalize z1.getD k 0 = v at c1 hv
        have HP : Hid (Pad w wr len0 w.heap.size w2.heap.size (fun i => z0.getD i 0) G) := hP
        clear hP hc H
        go_wp2
        go_roundw
        case rel => exact ⟨k + 1, by omega, by go_num, _, pad_set HP.out k v hv⟩
        case measure => simp [intOf]; omega
      · obtain ⟨G, hP⟩ := H.out
        have HP : Hid (Pad w wr len0 w.heap.size w2.heap.size (fun i => z0.getD i 0) G) := hP
        clear hP H
        go_wp2
        go_ret2
        exact ⟨_, _, _, _, rfl, HP.out⟩
    · obtain ⟨G, hP⟩ := H.out
      have HP : Hid (Pad w wr len0 w.heap.size w2.heap.size (fun i => z0.getD i 0) G) := hP
      clear hP H
      go_wp2
      go_ret2
      exact ⟨_, _, _, _, rfl, HP.out⟩
end Go.Proofs.Ybulkaxuk
