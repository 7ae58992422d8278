/-
  THE PROOF OF 'Rows.LawS2454CPlantedLabelSaid'. The frame is the guide's own shell; the walk is typed here, the callees by their contracts (YbulkaxukWalks.lean).
-/
import Derived.Test.YbulkaxukRows
import Derived.Test.YbulkaxukWalks
import Derived.Lib.EndianBits
import Derived.WalkKit
import Derived.ProofKit
import Derived.OpenShut
import Derived.ShutString
import Derived.ChangeOld
import Derived.Below
namespace Go.Proofs.Ybulkaxuk.lawS2454CPlantedLabel
open Go.ChangeShapes Go.WideShapes Go.ChangeAt Go.RowKit
open Go.ChangeMaps (open_string shut_string)
set_option linter.unusedVariables false

theorem own : ownKnob Yba.prog.godebug = none := by kernel_rfl
theorem laidOut : laidOutB Yba.prog = true := by kernel_rfl

/-! ### STEP 1: THE LABEL's ARITHMETIC; THE WALK: the Go text returns true, and writes nothing that was there -/
theorem or_comm32 (x y : Int) : bits .or .u32 x y = bits .or .u32 y x := by
  unfold bits
  simp [BitVec.or_comm]

/-- A code and a tag side by side: the label. -/
theorem label32 (code t : Int) (h0 : 0 ≤ code) (h1 : code < 512) (t0 : 0 ≤ t) (t1 : t ≤ 1) : bits .or .u32 code (t * 512) = code + t * 512 :=
  bits_join_low .u32 32 (by decide) wraps_u32 9 code (t * 512) h0 (by omega) (by omega) (by omega) (by omega) (by omega)

theorem wraps_i64 (n : Int) (h0 : 0 ≤ n) (h1 : n < 2 ^ 63) : IntKind.i64.wrap n = n := by rw [IntKind.wrap_i64]; omega

theorem label64 (code t : Int) (h0 : 0 ≤ code) (h1 : code < 512) (t0 : 0 ≤ t) (t1 : t ≤ 1) : bits .or .i64 code (t * 512) = code + t * 512 :=
  bits_join_low .i64 63 (by decide) wraps_i64 9 code (t * 512) h0 (by omega) (by omega) (by omega) (by omega) (by omega)

/-- The planted element: payload above, label below. -/
def planted (pay code t : Int) : Int := bits .or .u32 (pay * 1024 % 4294967296) (bits .or .u32 code (t * 512))

theorem planted_eq (pay code t : Int) (h0 : 0 ≤ code) (h1 : code < 512) (t0 : 0 ≤ t) (t1 : t ≤ 1) : planted pay code t = code + t * 512 + pay * 1024 % 4294967296 := by
  unfold planted
  rw [or_comm32, label32 code t h0 h1 t0 t1]
  exact bits_join_low .u32 32 (by decide) wraps_u32 10 _ _ (by omega) (by omega) (by omega) (by omega) (by omega) (by omega)

/-- THE LABEL TEST at a planted element. -/
theorem planted_test (pay code b t : Int) (h0 : 0 ≤ code) (h1 : code < 512) (hb0 : 0 ≤ b) (hb1 : b ≤ 255) (t0 : 0 ≤ t) (t1 : t ≤ 1) :
    (wrap64 (bits .and .u32 (planted pay code t) 1023) == bits .or .i64 (b + 1) (wrap64 (t * 512))) = decide (code = b + 1) := by
  have e1 := planted_eq pay code t h0 h1 t0 t1
  have e2 : bits .and .u32 (planted pay code t) 1023 = code + t * 512 := by rw [e1, and10 _ (by omega) (by omega)]; omega
  have e3 : wrap64 (t * 512) = t * 512 := by unfold wrap64; omega
  have e4 : wrap64 (code + t * 512) = code + t * 512 := by unfold wrap64; omega
  rw [e2, e3, e4, label64 (b + 1) t (by omega) (by omega) t0 t1, Bool.eq_iff_iff]
  simp only [beq_iff_eq, decide_eq_true_eq]
  omega

/-- stepWithHighs behind the planting. -/
theorem plant_step {w w1 : World} {n gE gH T : Nat} {F G : Nat → Int} {x hi b tag y : Int} {c : Bool} (hP : Pad w w1 n gE gH F G) (hlt : T < n) (hx : 0 ≤ x ∧ x ≤ 4294967295) (hh : 0 ≤ hi ∧ hi ≤ 4294967295) (hb : 0 ≤ b ∧ b ≤ 255) (hn : n ≤ 1024)
    (hT : (x / 1024 + hi + b) % 4294967296 + 1 = (T : Int)) (hc : (wrap64 (bits .and .u32 y 1023) == bits .or .i64 (b + 1) (wrap64 (tag * 512))) = c) :
    Calls Yba.prog 7 #[.slice (some ⟨gE, 0, none⟩) n n, .slice (some ⟨gH, 0, none⟩) n n, .int .u32 x, .int .u32 hi, .int .u8 b, .int .i64 tag] (w1.setCell ⟨gE, T, none⟩ (.int .u32 y)) fun e w' =>
      e = .returned (.tuple #[.int .u32 y, .int .u32 (G T * 4194304 % 4294967296), .bool c]) ∧ ∃ n, w' = (w1.setCell ⟨gE, T, none⟩ (.int .u32 y)).drewN n := by
  refine step_in gE gH n T x hi b tag y (G T) c hx hh hb hn (hP.bH T) _ hT hlt ?_ ?_ hc
  · exact World.cell?_setCell_same _ _ _ (hP.rowE.cell hlt)
  · rw [World.cell?_setCell_other _ _ _ _ (by intro e; simp only [Addr.mk.injEq] at e; exact hP.ne e.1)]
    exact hP.rowH.cell hlt

set_option maxHeartbeats 4000000 in
set_option maxRecDepth 100000 in
theorem walk (a0 : Option Addr) (len0 cap0 : Nat) (z0 : List Int) (a1 : Option Addr) (len1 cap1 : Nat) (z1 : List Int) (a2 : Int) (a3 : Int) (a4 : Int) (a5 : Int) (a6 : Int) (a7 : Bool) (w : World) (w0 : IsRow .u32 w a0 len0 cap0 z0) (w1 : IsRow .u16 w a1 len1 cap1 z1) (w2 : (Lit.int .u32 a2).wf = true) (w3 : (Lit.int .u32 a3).wf = true) (w4 : (Lit.int .u8 a4).wf = true) (w5 : (Lit.int .u32 a5).wf = true) (w6 : (Lit.int .u8 a6).wf = true) :
    Calls Yba.prog 4 #[.slice a0 len0 cap0, .slice a1 len1 cap1, .int .u32 a2, .int .u32 a3, .int .u8 a4, .int .u32 a5, .int .u8 a6, .bool a7] w fun e w' => e = .returned (.bool true) ∧ Below w.heap.size w w' := by
  have h2 := bounds_u32 w2
  have h3 := bounds_u32 w3
  have h4 := bounds_u8 w4
  have h5 := bounds_u32 w5
  have h6 := bounds_u8 w6
  have m0 := row_max w0
  have m1 := row_max w1
  clear w2 w3 w4 w5 w6
  by_cases hl : len0 ≤ 1024
  · have hpad := hidden (pad_any a0 len0 cap0 z0 a1 len1 cap1 z1 w w0 w1 hl m1)
    clear w0 w1 m0 m1
    go_enter Yba.func4, Yba.ntmps4
    go_wp2_with fail
    refine hpad.out.mono ?_
    rintro e w1 ⟨gE, gH, F, G, rfl, hP⟩
    have HP : Hid (Pad w w1 len0 gE gH F G) := hP
    clear hP hpad
    go_wp2_with fail
    refine (index_any a2 a3 a4 h2 h3 h4 _).mono ?_
    rintro e w2 ⟨rfl, rfl⟩
    obtain ⟨T, hT⟩ : ∃ T : Nat, (a2 / 1024 + a3 + a4) % 4294967296 + 1 = (T : Int) := ⟨((a2 / 1024 + a3 + a4) % 4294967296 + 1).toNat, by omega⟩
    rw [hT]
    by_cases hlt : T < len0
    · have hE := HP.out.rowE.cell hlt
      have fE := HP.out.rowE.frozen T
      have hH := HP.out.rowH.cell hlt
      have bH := HP.out.bH T
      have hne : ¬ gE = gH := HP.out.ne
      have hne' : ¬ gH = gE := fun e => hne e.symm
      have HT : Hid ((a2 / 1024 + a3 + a4) % 4294967296 + 1 = (T : Int)) := hT
      clear hT
      cases a7 with
      | true =>
        have hstep := hidden (plant_step HP.out hlt h2 h3 h4 hl HT.out (planted_test a5 (a4 + 1) a4 (a6 % 2) (by omega) (by omega) h4.1 h4.2 (by omega) (by omega)))
        have hd : decide (a4 + 1 = a4 + 1) = true := by simp
        rw [hd] at hstep
        clear hd
        go_wp2_with fail
        refine hstep.out.mono ?_
        rintro e w3 ⟨rfl, n, rfl⟩
        clear hstep
        go_wp2
        go_ret
        exact ⟨rfl, below_drewN (HP.out.below.setCell HP.out.loE _) _⟩
      | false =>
        have hstep := hidden (plant_step HP.out hlt h2 h3 h4 hl HT.out (planted_test a5 (a4 + 2) a4 (a6 % 2) (by omega) (by omega) h4.1 h4.2 (by omega) (by omega)))
        have hd : decide (a4 + 2 = a4 + 1) = false := by simp
        rw [hd] at hstep
        clear hd
        go_wp2_with fail
        refine hstep.out.mono ?_
        rintro e w3 ⟨rfl, n, rfl⟩
        clear hstep
        go_wp2
        go_ret
        exact ⟨rfl, below_drewN (HP.out.below.setCell HP.out.loE _) _⟩
    · have hstep := hidden (step_out (some ⟨gE, 0, none⟩) (some ⟨gH, 0, none⟩) len0 a2 a3 a4 0 h2 h3 h4 hl w2 (by omega))
      have HT : Hid ((a2 / 1024 + a3 + a4) % 4294967296 + 1 = (T : Int)) := hT
      clear hT
      go_wp2_with fail
      refine hstep.out.mono ?_
      rintro e w3 ⟨rfl, rfl⟩
      clear hstep
      go_wp2
      go_ret
      exact ⟨rfl, HP.out.below⟩
  · unfold maxLen at m0
    go_enter Yba.func4, Yba.ntmps4
    go_wp2
    go_ret
    exact ⟨rfl, Below.refl _ _⟩

/-! ### THE ROW's STEP: WRITTEN OUT: LEAVE IT -/
set_option maxRecDepth 100000 in
theorem lifted (os : Os) (started : os.Started) (H : Type) (enc : TypeId × Value → H) :
    ReturnsInHanded {} Yba.checked os 4 .any (Rows.lawS2454CPlantedLabelSpec.pre6 enc Yba.prog Yba.f4 Rows.lawS2454CPlantedLabelRow.domain false) (Rows.lawS2454CPlantedLabelSpec.post enc Yba.prog Yba.f4 false true false false) := by
  refine returnsInHanded_of_change (C := Yba.checked) own started (by kernel_rfl) Yba.func4
    (ChangeSpec.witness6 (enc := enc) (C := Yba.checked) false ⟨#[], #[.slice none 0 0, .slice none 0 0, .int .u32 0, .int .u32 0, .int .u8 0, .int .u32 0, .int .u8 0, .bool false], []⟩ 8 (by kernel_rfl) (by kernel_rfl) (by kernel_rfl) (by kernel_rfl)) ?_
  intro W base args ds gs before hval0 hW hcnd _
  have hval : ∀ (j : Nat) t v, Yba.f4.params[j]? = some t → args[j]? = some v → Value.okWide Yba.prog W .any base t v := hval0
  have hW' := hW
  obtain ⟨p, q, hA0, hV, rfl, hfz, hnd⟩ := hW
  have hA : DataW.TrodAll enc Yba.prog W 0 (fun _ => true) true Yba.f4.params.toList args.toList ds p := hA0
  rw [Yba.params4] at hA hval
  obtain ⟨v0, vs0, d0, ds0, p0, q0, hargs, rfl, rfl, h0, r0⟩ := trodAll_cons hA
  obtain ⟨v1, vs1, d1, ds1, p1, q1, rfl, rfl, rfl, h1, r1⟩ := trodAll_cons r0
  obtain ⟨v2, vs2, d2, ds2, p2, q2, rfl, rfl, rfl, h2, r2⟩ := trodAll_cons r1
  obtain ⟨v3, vs3, d3, ds3, p3, q3, rfl, rfl, rfl, h3, r3⟩ := trodAll_cons r2
  obtain ⟨v4, vs4, d4, ds4, p4, q4, rfl, rfl, rfl, h4, r4⟩ := trodAll_cons r3
  obtain ⟨v5, vs5, d5, ds5, p5, q5, rfl, rfl, rfl, h5, r5⟩ := trodAll_cons r4
  obtain ⟨v6, vs6, d6, ds6, p6, q6, rfl, rfl, rfl, h6, r6⟩ := trodAll_cons r5
  obtain ⟨v7, vs7, d7, ds7, p7, q7, rfl, rfl, rfl, h7, r7⟩ := trodAll_cons r6
  obtain ⟨rfl, rfl, rfl⟩ := trodAll_nil r7
  obtain rfl : args = #[v0, v1, v2, v3, v4, v5, v6, v7] := by cases args; simp_all
  obtain ⟨rfl, rfl⟩ := trodVars_none hV
  obtain ⟨a0, len0, cap0, rfl⟩ := okWide_slice Yba.underlying22 (hval 0 22 v0 rfl rfl)
  have k0 := h0
  have lt0 : ∀ x ∈ p0, x.block < W.heap.size := by obtain ⟨m, hm⟩ := k0; exact DataW.trod_lt m _ _ _ hm
  obtain ⟨z0, w0⟩ : ∃ zs, IsRow .u32 W a0 len0 cap0 zs := by
    obtain ⟨fuel, hf⟩ := h0
    rcases open_ints Yba.underlying22 Yba.underlying24 (by kernel_rfl) hf with ⟨hcs, _⟩ | ⟨x, l, c, zs, hcs, _, hl, hm, hz, _, hcell, hwz⟩
    · simp [Value.cells] at hcs
      obtain ⟨rfl, rfl, rfl⟩ := hcs
      exact ⟨[], .inl ⟨rfl, rfl, rfl, rfl⟩⟩
    · simp [Value.cells] at hcs
      obtain ⟨rfl, rfl, rfl⟩ := hcs
      exact ⟨zs, .inr ⟨_, rfl, hl, hm, by simpa using hz, hcell, hwz⟩⟩
  obtain ⟨a1, len1, cap1, rfl⟩ := okWide_slice Yba.underlying23 (hval 1 23 v1 rfl rfl)
  have k1 := h1
  have lt1 : ∀ x ∈ p1, x.block < W.heap.size := by obtain ⟨m, hm⟩ := k1; exact DataW.trod_lt m _ _ _ hm
  obtain ⟨z1, w1⟩ : ∃ zs, IsRow .u16 W a1 len1 cap1 zs := by
    obtain ⟨fuel, hf⟩ := h1
    rcases open_ints Yba.underlying23 Yba.underlying31 (by kernel_rfl) hf with ⟨hcs, _⟩ | ⟨x, l, c, zs, hcs, _, hl, hm, hz, _, hcell, hwz⟩
    · simp [Value.cells] at hcs
      obtain ⟨rfl, rfl, rfl⟩ := hcs
      exact ⟨[], .inl ⟨rfl, rfl, rfl, rfl⟩⟩
    · simp [Value.cells] at hcs
      obtain ⟨rfl, rfl, rfl⟩ := hcs
      exact ⟨zs, .inr ⟨_, rfl, hl, hm, by simpa using hz, hcell, hwz⟩⟩
  obtain ⟨a2, rfl, rfl, rfl, w2⟩ := open_int Yba.underlying24 (hval 2 24 v2 rfl rfl) h2
  obtain ⟨a3, rfl, rfl, rfl, w3⟩ := open_int Yba.underlying24 (hval 3 24 v3 rfl rfl) h3
  obtain ⟨a4, rfl, rfl, rfl, w4⟩ := open_int Yba.underlying5 (hval 4 5 v4 rfl rfl) h4
  obtain ⟨a5, rfl, rfl, rfl, w5⟩ := open_int Yba.underlying24 (hval 5 24 v5 rfl rfl) h5
  obtain ⟨a6, rfl, rfl, rfl, w6⟩ := open_int Yba.underlying5 (hval 6 5 v6 rfl rfl) h6
  obtain ⟨a7, rfl, rfl, rfl⟩ := open_bool Yba.underlying4 (hval 7 4 v7 rfl rfl) h7
  clear hA0 hval0
  refine (walk a0 len0 cap0 z0 a1 len1 cap1 z1 a2 a3 a4 a5 a6 a7 W w0 w1 w2 w3 w4 w5 w6).mono fun e W' ⟨he, bel⟩ => ?_
  subst he
  exact ⟨_, rfl, _, _, _, [], _, [], hW', trodAll_mk1 (shut_bool Yba.underlying4 _), (trodAll_cons_mk (Below.trod laidOut (by kernel_rfl) (of_decide_eq_true (by kernel_rfl)) k0 bel lt0) (trodAll_cons_mk (Below.trod laidOut (by kernel_rfl) (of_decide_eq_true (by kernel_rfl)) k1 bel lt1) (trodAll_cons_mk (shut_int Yba.underlying24 w2) (trodAll_cons_mk (shut_int Yba.underlying24 w3) (trodAll_cons_mk (shut_int Yba.underlying5 w4) (trodAll_cons_mk (shut_int Yba.underlying24 w5) (trodAll_cons_mk (shut_int Yba.underlying5 w6) (trodAll_cons_mk (shut_bool Yba.underlying4 _) trodAll_mk0)))))))), rfl, bel.frame _, fun h => by cases h⟩

theorem over : Rows.lawS2454CPlantedLabelRow.holds Yba.pinned (OpenSpec.ofChange Rows.lawS2454CPlantedLabelSpec) :=
  OpenClaim.holds_of_wide 4 Yba.f4 rfl rfl rfl rfl rfl rfl rfl ⟨rfl, rfl, rfl, rfl, rfl⟩ rfl rfl rfl rfl rfl (by kernel_rfl) Yba.func4 (by kernel_rfl)
    (of_decide_eq_true (by kernel_rfl)) (by unfold Func.isWrapper; first | (rw [if_pos (by decide +kernel)]; kernel_rfl) | (rw [if_neg (by decide +kernel)]; exact ⟨rfl, rfl⟩))
    (fun os started H enc _ => lifted os started H enc)

/-- ████ THE STATEMENT ████ -/
theorem proved : Rows.LawS2454CPlantedLabelSaid := over
#print axioms proved
end Go.Proofs.Ybulkaxuk.lawS2454CPlantedLabel
