/-
  THE PROOF OF 'Rows.LawS2451BRoundTripSaid'. Typed by hand after the guide's shells: an array of eight bytes by value.
-/
import Derived.Test.YbulkaxsuRows
import Derived.WalkKit
import Derived.ProofKit
import Derived.OpenShut
import Derived.ShutString
import Derived.Handy
import Derived.Lib.EndianBits
import Derived.Deep.QuietTactic
import Derived.BigQuiet
import Derived.WalkSmall
import Derived.ChangeOld
namespace Go.Proofs.Ybulkaxsu.lawS2451BRoundTrip
open Go.ChangeShapes Go.WideShapes Go.ChangeAt Go.RowKit
set_option linter.unusedVariables false

theorem or_comm64 (x y : Int) : bits .or .u64 x y = bits .or .u64 y x := by
  unfold bits
  simp [BitVec.or_comm]

theorem join (v x : Int) (h0 : 0 ≤ v) (h1 : v < 72057594037927936) (b : 0 ≤ x ∧ x ≤ 255) : bits .or .u64 (IntKind.u64.wrap (v * 256)) x = v * 256 + x := by
  rw [or_comm64, u64_wrap_id _ (by omega) (by omega), u64_or8 _ _ (by omega) (by omega) (by omega) (by omega) (by omega)]
  omega

/-- What the word holds when 'k' bytes are still to come. -/
def acc (x0 x1 x2 x3 x4 x5 x6 x7 : Int) : Nat → Int
  | 0 => ((((((x7 * 256 + x6) * 256 + x5) * 256 + x4) * 256 + x3) * 256 + x2) * 256 + x1) * 256 + x0
  | 1 => (((((x7 * 256 + x6) * 256 + x5) * 256 + x4) * 256 + x3) * 256 + x2) * 256 + x1
  | 2 => ((((x7 * 256 + x6) * 256 + x5) * 256 + x4) * 256 + x3) * 256 + x2
  | 3 => (((x7 * 256 + x6) * 256 + x5) * 256 + x4) * 256 + x3
  | 4 => ((x7 * 256 + x6) * 256 + x5) * 256 + x4
  | 5 => (x7 * 256 + x6) * 256 + x5
  | 6 => x7 * 256 + x6
  | 7 => x7
  | _ => 0

set_option maxHeartbeats 1000000 in
theorem from_below (a0 : Int) (h0 : 0 ≤ a0) (h1 : a0 ≤ 18446744073709551615) (w : World) :
    Calls Yba.prog 5 #[.int .u64 a0] w fun e w' => e = .returned (.agg #[.int .u8 (a0 % 256), .int .u8 (a0 / 256 % 256), .int .u8 (a0 / 65536 % 256), .int .u8 (a0 / 16777216 % 256), .int .u8 (a0 / 4294967296 % 256), .int .u8 (a0 / 1099511627776 % 256), .int .u8 (a0 / 281474976710656 % 256), .int .u8 (a0 / 72057594037927936)]) ∧ Below w.heap.size w w' := by
  go_enter Yba.func5, Yba.ntmps5
  go_wp2
  go_region_calls
  go_wp2
  go_returns
  refine ⟨rfl, ?_⟩
  go_grown

theorem from_bytes (x0 x1 x2 x3 x4 x5 x6 x7 v : Int) (b0 : 0 ≤ x0 ∧ x0 ≤ 255) (b1 : 0 ≤ x1 ∧ x1 ≤ 255) (b2 : 0 ≤ x2 ∧ x2 ≤ 255) (b3 : 0 ≤ x3 ∧ x3 ≤ 255) (b4 : 0 ≤ x4 ∧ x4 ≤ 255) (b5 : 0 ≤ x5 ∧ x5 ≤ 255) (b6 : 0 ≤ x6 ∧ x6 ≤ 255) (b7 : 0 ≤ x7 ∧ x7 ≤ 255)
    (hv : v = ((((((x7 * 256 + x6) * 256 + x5) * 256 + x4) * 256 + x3) * 256 + x2) * 256 + x1) * 256 + x0) (w : World) :
    Calls Yba.prog 5 #[.int .u64 v] w fun e w' => e = .returned (.agg #[.int .u8 x0, .int .u8 x1, .int .u8 x2, .int .u8 x3, .int .u8 x4, .int .u8 x5, .int .u8 x6, .int .u8 x7]) ∧ Below w.heap.size w w' := by
  have step : ∀ q x : Int, 0 ≤ x ∧ x ≤ 255 → (q * 256 + x) % 256 = x ∧ (q * 256 + x) / 256 = q := fun q x h => by omega
  have bnd : ∀ q x B : Int, 0 ≤ x ∧ x ≤ 255 → 0 ≤ q → q ≤ B → 0 ≤ q * 256 + x ∧ q * 256 + x ≤ B * 256 + 255 := fun q x B h h1 h2 => by omega
  have d2 : v / 65536 = v / 256 / 256 := by omega
  have d3 : v / 16777216 = v / 256 / 256 / 256 := by omega
  have d4 : v / 4294967296 = v / 256 / 256 / 256 / 256 := by omega
  have d5 : v / 1099511627776 = v / 256 / 256 / 256 / 256 / 256 := by omega
  have d6 : v / 281474976710656 = v / 256 / 256 / 256 / 256 / 256 / 256 := by omega
  have d7 : v / 72057594037927936 = v / 256 / 256 / 256 / 256 / 256 / 256 / 256 := by omega
  have r6 := bnd x7 x6 255 b6 b7.1 b7.2
  have r5 := bnd _ x5 _ b5 r6.1 r6.2
  have r4 := bnd _ x4 _ b4 r5.1 r5.2
  have r3 := bnd _ x3 _ b3 r4.1 r4.2
  have r2 := bnd _ x2 _ b2 r3.1 r3.2
  have r1 := bnd _ x1 _ b1 r2.1 r2.2
  have r0 := bnd _ x0 _ b0 r1.1 r1.2
  rw [← hv] at r0
  have h := from_below v r0.1 (by simpa using r0.2) w
  clear r0 r1 r2 r3 r4 r5 r6 bnd
  rw [d2, d3, d4, d5, d6, d7] at h
  clear d2 d3 d4 d5 d6 d7
  have e0 : v % 256 = x0 := by rw [hv]; exact (step _ _ b0).1
  have g0 : v / 256 = (((((x7 * 256 + x6) * 256 + x5) * 256 + x4) * 256 + x3) * 256 + x2) * 256 + x1 := by rw [hv]; exact (step _ _ b0).2
  rw [e0, g0, (step _ _ b1).1, (step _ _ b1).2, (step _ _ b2).1, (step _ _ b2).2, (step _ _ b3).1, (step _ _ b3).2, (step _ _ b4).1, (step _ _ b4).2, (step _ _ b5).1, (step _ _ b5).2, (step _ _ b6).1, (step _ _ b6).2] at h
  exact h

set_option maxHeartbeats 4000000 in
theorem walk (x0 x1 x2 x3 x4 x5 x6 x7 : Int) (b0 : 0 ≤ x0 ∧ x0 ≤ 255) (b1 : 0 ≤ x1 ∧ x1 ≤ 255) (b2 : 0 ≤ x2 ∧ x2 ≤ 255) (b3 : 0 ≤ x3 ∧ x3 ≤ 255) (b4 : 0 ≤ x4 ∧ x4 ≤ 255) (b5 : 0 ≤ x5 ∧ x5 ≤ 255) (b6 : 0 ≤ x6 ∧ x6 ≤ 255) (b7 : 0 ≤ x7 ∧ x7 ≤ 255) (w : World) :
    Calls Yba.prog 4 #[.agg #[.int .u8 x0, .int .u8 x1, .int .u8 x2, .int .u8 x3, .int .u8 x4, .int .u8 x5, .int .u8 x6, .int .u8 x7]] w fun e w' => e = .returned (.bool true) ∧ Below w.heap.size w w' := by
  go_enter Yba.func4, Yba.ntmps4
  go_wp2
  go_loop [3, 4] (fun a i => ∃ k : Nat, k ≤ 8 ∧ i = .int .i64 ((k : Int) - 1) ∧ ∃ v : Int, a = .int .u64 v ∧ Hid (v = acc x0 x1 x2 x3 x4 x5 x6 x7 k)) (fun _ i => ((intOf i) + 1).toNat)
  case atStart => exact ⟨8, by omega, rfl, 0, rfl, rfl⟩
  case round =>
    obtain ⟨k, hk, rfl, v, rfl, hv⟩ := hrel
    have hk9 : k = 0 ∨ k = 1 ∨ k = 2 ∨ k = 3 ∨ k = 4 ∨ k = 5 ∨ k = 6 ∨ k = 7 ∨ k = 8 := by omega
    rcases hk9 with rfl | rfl | rfl | rfl | rfl | rfl | rfl | rfl | rfl
    · go_wp2_with fail
      refine (from_bytes x0 x1 x2 x3 x4 x5 x6 x7 _ b0 b1 b2 b3 b4 b5 b6 b7 hv.out _).mono ?_
      rintro e w1 ⟨rfl, hb⟩
      clear hv
      have hz : w.heap.size < w1.heap.size := by have := hb.size; simp at this; omega
      have hc : ∀ o, w1.cell? ⟨w.heap.size, o, none⟩ = (w.alloc (.cells #[.int .u8 x0, .int .u8 x1, .int .u8 x2, .int .u8 x3, .int .u8 x4, .int .u8 x5, .int .u8 x6, .int .u8 x7] 23)).cell? ⟨w.heap.size, o, none⟩ := fun o => hb.cell (p := ⟨w.heap.size, o, none⟩) (by simp)
      have HB : Hid (Below w.heap.size w w1) := ((Below.refl _ _).alloc (Nat.le_refl _) _).trans (hb.mono (by simp))
      clear hb
      go_wp2
      go_loopw [6] (fun i wr => (∃ k : Nat, k ≤ 8 ∧ i = .int .i64 k) ∧ ∃ n, wr = (w1.alloc (.cells #[.int .u8 x0, .int .u8 x1, .int .u8 x2, .int .u8 x3, .int .u8 x4, .int .u8 x5, .int .u8 x6, .int .u8 x7] 24)).drewN n) (fun i _ => 8 - (intOf i).toNat)
      case atStart => exact ⟨⟨0, by omega, rfl⟩, 0, rfl⟩
      case round =>
        obtain ⟨⟨k, hk, rfl⟩, n, rfl⟩ := hrel
        have hk9 : k = 0 ∨ k = 1 ∨ k = 2 ∨ k = 3 ∨ k = 4 ∨ k = 5 ∨ k = 6 ∨ k = 7 ∨ k = 8 := by omega
        rcases hk9 with rfl | rfl | rfl | rfl | rfl | rfl | rfl | rfl | rfl
        · go_wp2
          go_quiet (fail)
          go_wp2
          exact ⟨⟨⟨1, by omega, rfl⟩, _, rfl⟩, by decide⟩
        · go_wp2
          go_quiet (fail)
          go_wp2
          exact ⟨⟨⟨2, by omega, rfl⟩, _, rfl⟩, by decide⟩
        · go_wp2
          go_quiet (fail)
          go_wp2
          exact ⟨⟨⟨3, by omega, rfl⟩, _, rfl⟩, by decide⟩
        · go_wp2
          go_quiet (fail)
          go_wp2
          exact ⟨⟨⟨4, by omega, rfl⟩, _, rfl⟩, by decide⟩
        · go_wp2
          go_quiet (fail)
          go_wp2
          exact ⟨⟨⟨5, by omega, rfl⟩, _, rfl⟩, by decide⟩
        · go_wp2
          go_quiet (fail)
          go_wp2
          exact ⟨⟨⟨6, by omega, rfl⟩, _, rfl⟩, by decide⟩
        · go_wp2
          go_quiet (fail)
          go_wp2
          exact ⟨⟨⟨7, by omega, rfl⟩, _, rfl⟩, by decide⟩
        · go_wp2
          go_quiet (fail)
          go_wp2
          exact ⟨⟨⟨8, by omega, rfl⟩, _, rfl⟩, by decide⟩
        · go_wp2
          go_ret
          exact ⟨rfl, below_drewN (HB.out.alloc (by omega) _) _⟩
    all_goals
      have hv' := hv.out
      simp only [acc] at hv'
      have HV : Hid (∀ x : Int, 0 ≤ x ∧ x ≤ 255 → bits .or .u64 (IntKind.u64.wrap (v * 256)) x = v * 256 + x) := fun x hx => join v x (by omega) (by omega) hx
      have HV2 := hv
      clear hv hv'
      go_wp2
    · refine ⟨⟨0, by omega, rfl, _, rfl, ?_⟩, by decide⟩
      show _ = _
      rw [HV.out _ b0, HV2.out]; rfl
    · refine ⟨⟨1, by omega, rfl, _, rfl, ?_⟩, by decide⟩
      show _ = _
      rw [HV.out _ b1, HV2.out]; rfl
    · refine ⟨⟨2, by omega, rfl, _, rfl, ?_⟩, by decide⟩
      show _ = _
      rw [HV.out _ b2, HV2.out]; rfl
    · refine ⟨⟨3, by omega, rfl, _, rfl, ?_⟩, by decide⟩
      show _ = _
      rw [HV.out _ b3, HV2.out]; rfl
    · refine ⟨⟨4, by omega, rfl, _, rfl, ?_⟩, by decide⟩
      show _ = _
      rw [HV.out _ b4, HV2.out]; rfl
    · refine ⟨⟨5, by omega, rfl, _, rfl, ?_⟩, by decide⟩
      show _ = _
      rw [HV.out _ b5, HV2.out]; rfl
    · refine ⟨⟨6, by omega, rfl, _, rfl, ?_⟩, by decide⟩
      show _ = _
      rw [HV.out _ b6, HV2.out]; rfl
    · refine ⟨⟨7, by omega, rfl, _, rfl, ?_⟩, by decide⟩
      show _ = _
      rw [HV.out _ b7, HV2.out]
      show 0 * 256 + x7 = x7
      omega

theorem own : ownKnob Yba.prog.godebug = none := by kernel_rfl
theorem laidOut : laidOutB Yba.prog = true := by kernel_rfl
theorem cells23 : Yba.prog.cellsOf 23 = 8 := by kernel_rfl
theorem cells5 : Yba.prog.cellsOf 5 = 1 := by kernel_rfl

/-- A list of eight. -/
theorem eight {α : Type} (l : List α) (h : l.length = 8) : ∃ a b c d e f g i, l = [a, b, c, d, e, f, g, i] := by
  match l, h with
  | [a, b, c, d, e, f, g, i], _ => exact ⟨a, b, c, d, e, f, g, i, rfl⟩

/-- What an array of eight bytes by value is. -/
theorem open_arr {H : Type} {enc : TypeId × Value → H} {W : World} {base : Nat} {v : Value} {d : DataW H} {p : List MemPlace} {b : Nat}
    (hv : Value.okWide Yba.prog W .any b 23 v) (h : DataW.Trod enc Yba.prog W base (fun _ => true) true 23 v d p) :
    ∃ x0 x1 x2 x3 x4 x5 x6 x7 : Int, v = .agg #[.int .u8 x0, .int .u8 x1, .int .u8 x2, .int .u8 x3, .int .u8 x4, .int .u8 x5, .int .u8 x6, .int .u8 x7] ∧
      (0 ≤ x0 ∧ x0 ≤ 255) ∧ (0 ≤ x1 ∧ x1 ≤ 255) ∧ (0 ≤ x2 ∧ x2 ≤ 255) ∧ (0 ≤ x3 ∧ x3 ≤ 255) ∧ (0 ≤ x4 ∧ x4 ≤ 255) ∧ (0 ≤ x5 ∧ x5 ≤ 255) ∧ (0 ≤ x6 ∧ x6 ≤ 255) ∧ (0 ≤ x7 ∧ x7 ≤ 255) := by
  obtain ⟨cs, rfl, hsz, _⟩ : ∃ cs, v = .agg cs ∧ cs.size = Yba.prog.cellsOf 23 ∧ Row.okWide Yba.prog W .any b 23 cs := by
    simpa [Value.okWide, Yba.underlying23] using hv
  rw [cells23] at hsz
  obtain ⟨l⟩ := cs
  obtain ⟨c0, c1, c2, c3, c4, c5, c6, c7, rfl⟩ := eight l hsz
  obtain ⟨fuel, hf⟩ := h
  obtain ⟨xs, m, rfl, hx, hlen, hl, hel⟩ := DataW.trod_array Yba.underlying23 hf
  rw [cells5] at hel
  have one : ∀ (i : Nat) (c : Value), i < 8 → ([c0, c1, c2, c3, c4, c5, c6, c7].drop (i * 1)).take 1 = [c] → ∃ n : Int, c = .int .u8 n ∧ 0 ≤ n ∧ n ≤ 255 := by
    intro i c hi hc
    have h1 := hel i hi
    rw [List.getElem?_eq_getElem (by omega)] at h1
    have h2 : DataW.trod enc Yba.prog W base (fun _ => true) true m 5 [c] = some xs[i] := by rw [← hc]; exact h1
    obtain ⟨n, e, _, wn⟩ := DataW.trod_int Yba.underlying5 h2
    simp at e
    exact ⟨n, e, bounds_u8 wn⟩
  obtain ⟨x0, rfl, b0⟩ := one 0 c0 (by omega) rfl
  obtain ⟨x1, rfl, b1⟩ := one 1 c1 (by omega) rfl
  obtain ⟨x2, rfl, b2⟩ := one 2 c2 (by omega) rfl
  obtain ⟨x3, rfl, b3⟩ := one 3 c3 (by omega) rfl
  obtain ⟨x4, rfl, b4⟩ := one 4 c4 (by omega) rfl
  obtain ⟨x5, rfl, b5⟩ := one 5 c5 (by omega) rfl
  obtain ⟨x6, rfl, b6⟩ := one 6 c6 (by omega) rfl
  obtain ⟨x7, rfl, b7⟩ := one 7 c7 (by omega) rfl
  exact ⟨x0, x1, x2, x3, x4, x5, x6, x7, rfl, b0, b1, b2, b3, b4, b5, b6, b7⟩

/-! ### THE ROW's STEP -/
set_option maxRecDepth 100000 in
theorem lifted (os : Os) (started : os.Started) (H : Type) (enc : TypeId × Value → H) :
    ReturnsInHanded {} Yba.checked os 4 .any (Rows.lawS2451BRoundTripSpec.pre6 enc Yba.prog Yba.f4 Rows.lawS2451BRoundTripRow.domain false) (Rows.lawS2451BRoundTripSpec.post enc Yba.prog Yba.f4 false true false false) := by
  refine returnsInHanded_of_change (C := Yba.checked) own started (by kernel_rfl) Yba.func4
    (ChangeSpec.witness6 (enc := enc) (C := Yba.checked) false ⟨#[], #[.agg #[.int .u8 0, .int .u8 0, .int .u8 0, .int .u8 0, .int .u8 0, .int .u8 0, .int .u8 0, .int .u8 0]], []⟩ 8 (by kernel_rfl) (by kernel_rfl) (by kernel_rfl) (by kernel_rfl)) ?_
  intro W base args ds gs before hval0 hW hcnd _
  have hval : ∀ (j : Nat) t v, Yba.f4.params[j]? = some t → args[j]? = some v → Value.okWide Yba.prog W .any base t v := hval0
  have hW' := hW
  obtain ⟨p, q, hA0, hV, rfl, hfz, hnd⟩ := hW
  have hA : DataW.TrodAll enc Yba.prog W 0 (fun _ => true) true Yba.f4.params.toList args.toList ds p := hA0
  rw [Yba.params4] at hA hval
  obtain ⟨v0, vs0, d0, ds0, p0, q0, hargs, rfl, rfl, h0, r0⟩ := trodAll_cons hA
  obtain ⟨rfl, rfl, rfl⟩ := trodAll_nil r0
  obtain rfl : args = #[v0] := by cases args; simp_all
  obtain ⟨rfl, rfl⟩ := trodVars_none hV
  have k0 := h0
  have lt0 : ∀ x ∈ p0, x.block < W.heap.size := by obtain ⟨m, hm⟩ := k0; exact DataW.trod_lt m _ _ _ hm
  obtain ⟨x0, x1, x2, x3, x4, x5, x6, x7, rfl, b0, b1, b2, b3, b4, b5, b6, b7⟩ := open_arr (hval 0 23 v0 rfl rfl) h0
  clear hA0 hval0
  refine (walk x0 x1 x2 x3 x4 x5 x6 x7 b0 b1 b2 b3 b4 b5 b6 b7 W).mono fun e W' ⟨he, bel⟩ => ?_
  subst he
  exact ⟨_, rfl, _, _, _, [], _, [], hW', trodAll_mk1 (shut_bool Yba.underlying4 _), (trodAll_cons_mk (Below.trod laidOut (by kernel_rfl) (of_decide_eq_true (by kernel_rfl)) k0 bel lt0) trodAll_mk0), rfl, bel.frame _, fun h => by cases h⟩

theorem over : Rows.lawS2451BRoundTripRow.holds Yba.pinned (OpenSpec.ofChange Rows.lawS2451BRoundTripSpec) :=
  OpenClaim.holds_of_wide 4 Yba.f4 rfl rfl rfl rfl rfl rfl rfl ⟨rfl, rfl, rfl, rfl, rfl⟩ rfl rfl rfl rfl rfl (by kernel_rfl) Yba.func4 (by kernel_rfl)
    (of_decide_eq_true (by kernel_rfl)) (by unfold Func.isWrapper; first | (rw [if_pos (by decide +kernel)]; kernel_rfl) | (rw [if_neg (by decide +kernel)]; exact ⟨rfl, rfl⟩))
    (fun os started H enc _ => lifted os started H enc)

/-- ████ THE STATEMENT ████ -/
theorem proved : Rows.LawS2451BRoundTripSaid := over
#print axioms proved
end Go.Proofs.Ybulkaxsu.lawS2451BRoundTrip
