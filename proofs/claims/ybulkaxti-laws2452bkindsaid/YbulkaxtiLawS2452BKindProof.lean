/-
  THE PROOF OF 'Rows.LawS2452BKindSaid'. The frame is the guide's own shell, its end turned to 'Below'; the walk is typed here: isList is entered in place.
-/
import Derived.Test.YbulkaxtiRows
import Derived.WalkKit
import Derived.ProofKit
import Derived.OpenShut
import Derived.ShutString
import Derived.Handy
import Derived.Deep.OwnRows
import Derived.ChangeOld
import Derived.Below
namespace Go.Proofs.Ybulkaxti.lawS2452BKind
open Go.ChangeShapes Go.WideShapes Go.ChangeAt Go.RowKit
open Go.ChangeMaps (open_string shut_string)
set_option linter.unusedVariables false      -- a walk need not use every 'w<i>' (that an integer argument fits its kind)

theorem own : ownKnob Yba.prog.godebug = none := by kernel_rfl

/-! ### What the two type assertions of isList's switch give, at each dynamic type that the law makes -/
theorem as23_33 (v : Value) (w : World) : (Instr.typeAssert (.iface 23 v) 31 33 true).run Yba.prog w = .ok (.tuple #[.pointer none, .bool false]) w := by kernel_rfl
theorem as41_33 (v : Value) (w : World) : (Instr.typeAssert (.iface 41 v) 31 33 true).run Yba.prog w = .ok (.tuple #[.pointer none, .bool false]) w := by kernel_rfl
theorem as44_33 (v : Value) (w : World) : (Instr.typeAssert (.iface 44 v) 31 33 true).run Yba.prog w = .ok (.tuple #[.pointer none, .bool false]) w := by kernel_rfl
theorem as38_33 (v : Value) (w : World) : (Instr.typeAssert (.iface 38 v) 31 33 true).run Yba.prog w = .ok (.tuple #[.pointer none, .bool false]) w := by kernel_rfl
theorem as23_38 (v : Value) (w : World) : (Instr.typeAssert (.iface 23 v) 31 38 true).run Yba.prog w = .ok (.tuple #[.pointer none, .bool false]) w := by kernel_rfl
theorem as41_38 (v : Value) (w : World) : (Instr.typeAssert (.iface 41 v) 31 38 true).run Yba.prog w = .ok (.tuple #[.pointer none, .bool false]) w := by kernel_rfl
theorem as44_38 (v : Value) (w : World) : (Instr.typeAssert (.iface 44 v) 31 38 true).run Yba.prog w = .ok (.tuple #[.pointer none, .bool false]) w := by kernel_rfl
theorem as33_33 (v : Value) (w : World) : (Instr.typeAssert (.iface 33 v) 31 33 true).run Yba.prog w = .ok (.tuple #[v, .bool true]) w := by kernel_rfl
theorem as38_38 (v : Value) (w : World) : (Instr.typeAssert (.iface 38 v) 31 38 true).run Yba.prog w = .ok (.tuple #[v, .bool true]) w := by kernel_rfl
theorem as0_33 (w : World) : (Instr.typeAssert .nilIface 31 33 true).run Yba.prog w = .ok (.tuple #[.pointer none, .bool false]) w := by kernel_rfl
theorem as0_38 (w : World) : (Instr.typeAssert .nilIface 31 38 true).run Yba.prog w = .ok (.tuple #[.pointer none, .bool false]) w := by kernel_rfl
attribute [local go_sem] as23_33 as41_33 as44_33 as38_33 as23_38 as41_38 as44_38 as33_33 as38_38 as0_33 as0_38

/-! ### STEP 1: THE WALK: the Go text returns true, and writes nothing that was there -/
theorem Yba.info31 : (Yba.prog.info? 31).map (fun i => (i.zero, i.size, i.bytes)) = some (some .nilIface, 1, 16) := by kernel_rfl

set_option maxHeartbeats 4000000 in
theorem walk (a0 : Int) (a1 : Int) (a2 : Int) (a3 : Bool) (w0 : (Lit.int .u8 a0).wf = true) (w1 : (Lit.int .u8 a1).wf = true) (w2 : (Lit.int .u8 a2).wf = true) (w : World) :
    Calls Yba.prog 3 #[.int .u8 a0, .int .u8 a1, .int .u8 a2, .bool a3] w fun e w' => e = .returned (.bool true) ∧ Below w.heap.size w w' := by
  obtain ⟨p0, q0⟩ := bounds_u8 w0
  obtain ⟨p1, q1⟩ := bounds_u8 w1
  obtain ⟨p2, q2⟩ := bounds_u8 w2
  clear w0 w1 w2
  obtain ⟨m, hm, hm8⟩ : ∃ m : Nat, a2 % 8 = (m : Int) ∧ m < 8 := ⟨(a2 % 8).toNat, by omega, by omega⟩
  have hmk := run_make_row' (P := Yba.prog) 22 31 .nilIface 16 Yba.underlying22 Yba.info31 rfl .i64 .i64 m (by omega) (by omega)
  go_enter Yba.func3, Yba.ntmps3
  go_wp2
  go_loopw [22] (fun i wr => ∃ k : Nat, k ≤ m ∧ i = .int .i64 k ∧ Hid (Below w.heap.size w wr ∧ ∃ f, wr.rowIs w.heap.size 31 m f)) (fun i _ => m - (intOf i).toNat)
  case atStart => exact ⟨0, by omega, rfl, (Below.refl _ _).alloc (Nat.le_refl _) _, _, World.rowIs_made _ _ _ _⟩
  case round =>
    obtain ⟨k, hk, rfl, H⟩ := hrel
    by_cases hlt : k < m
    · obtain ⟨hb, f, hr⟩ := H.out
      have hz := hr.lt
      have hc := hr.cell hlt
      have hf := hr.frozen k
      have H2 := H
      have HR : Hid (wr.rowIs w.heap.size 31 m f) := hr
      clear H hb hr
      go_wp2
      go_roundw
      case rel => exact ⟨k + 1, by omega, by go_num, (H2.out.1.setCell (Nat.le_refl _) _).alloc (by simp [World.setCell]; omega) _, _, (HR.out.set k _).alloc _⟩
      case measure => simp [intOf]; omega
    · obtain ⟨hb, _⟩ := H.out
      have hz : w.heap.size ≤ wr.heap.size := hb.size
      have HB : Hid (Below w.heap.size w wr) := hb
      clear H hb hmk
      go_wp2
      all_goals go_ret
      all_goals (refine ⟨rfl, ?_⟩; have hbw := HB.out; go_grown)

/-! ### THE ROW's STEP: WRITTEN OUT: LEAVE IT -/
set_option maxRecDepth 100000 in
theorem lifted (os : Os) (started : os.Started) (H : Type) (enc : TypeId × Value → H) :
    ReturnsInHanded {} Yba.checked os 3 .any (Rows.lawS2452BKindSpec.pre6 enc Yba.prog Yba.f3 Rows.lawS2452BKindRow.domain false) (Rows.lawS2452BKindSpec.post enc Yba.prog Yba.f3 false true false false) := by
  refine returnsInHanded_of_change (C := Yba.checked) own started (by kernel_rfl) Yba.func3
    (ChangeSpec.witness6 (enc := enc) (C := Yba.checked) false ⟨#[], #[.int .u8 0, .int .u8 0, .int .u8 0, .bool false], []⟩ 8 (by kernel_rfl) (by kernel_rfl) (by kernel_rfl) (by kernel_rfl)) ?_
  intro W base args ds gs before hval0 hW hcnd _
  have hval : ∀ (j : Nat) t v, Yba.f3.params[j]? = some t → args[j]? = some v → Value.okWide Yba.prog W .any base t v := hval0
  have hW' := hW
  obtain ⟨p, q, hA0, hV, rfl, hfz, hnd⟩ := hW
  have hA : DataW.TrodAll enc Yba.prog W 0 (fun _ => true) true Yba.f3.params.toList args.toList ds p := hA0
  rw [Yba.params3] at hA hval
  obtain ⟨v0, vs0, d0, ds0, p0, q0, hargs, rfl, rfl, h0, r0⟩ := trodAll_cons hA
  obtain ⟨v1, vs1, d1, ds1, p1, q1, rfl, rfl, rfl, h1, r1⟩ := trodAll_cons r0
  obtain ⟨v2, vs2, d2, ds2, p2, q2, rfl, rfl, rfl, h2, r2⟩ := trodAll_cons r1
  obtain ⟨v3, vs3, d3, ds3, p3, q3, rfl, rfl, rfl, h3, r3⟩ := trodAll_cons r2
  obtain ⟨rfl, rfl, rfl⟩ := trodAll_nil r3
  obtain rfl : args = #[v0, v1, v2, v3] := by cases args; simp_all
  obtain ⟨rfl, rfl⟩ := trodVars_none hV
  obtain ⟨a0, rfl, rfl, rfl, w0⟩ := open_int Yba.underlying5 (hval 0 5 v0 rfl rfl) h0
  obtain ⟨a1, rfl, rfl, rfl, w1⟩ := open_int Yba.underlying5 (hval 1 5 v1 rfl rfl) h1
  obtain ⟨a2, rfl, rfl, rfl, w2⟩ := open_int Yba.underlying5 (hval 2 5 v2 rfl rfl) h2
  obtain ⟨a3, rfl, rfl, rfl⟩ := open_bool Yba.underlying4 (hval 3 4 v3 rfl rfl) h3
  clear hA0 hval0
  refine (walk a0 a1 a2 a3 w0 w1 w2 W).mono fun e W' ⟨he, bel⟩ => ?_
  subst he
  exact ⟨_, rfl, _, _, _, [], [], [], hW', trodAll_mk1 (shut_bool Yba.underlying4 _), (trodAll_cons_mk (shut_int Yba.underlying5 w0) (trodAll_cons_mk (shut_int Yba.underlying5 w1) (trodAll_cons_mk (shut_int Yba.underlying5 w2) (trodAll_cons_mk (shut_bool Yba.underlying4 a3) trodAll_mk0)))), rfl, bel.frame _, fun h => by cases h⟩

theorem over : Rows.lawS2452BKindRow.holds Yba.pinned (OpenSpec.ofChange Rows.lawS2452BKindSpec) :=
  OpenClaim.holds_of_wide 3 Yba.f3 rfl rfl rfl rfl rfl rfl rfl ⟨rfl, rfl, rfl, rfl, rfl⟩ rfl rfl rfl rfl rfl (by kernel_rfl) Yba.func3 (by kernel_rfl)
    (of_decide_eq_true (by kernel_rfl)) (by unfold Func.isWrapper; first | (rw [if_pos (by decide +kernel)]; kernel_rfl) | (rw [if_neg (by decide +kernel)]; exact ⟨rfl, rfl⟩))
    (fun os started H enc _ => lifted os started H enc)

/-- ████ THE STATEMENT ████ -/
theorem proved : Rows.LawS2452BKindSaid :=
  over
#print axioms proved
end Go.Proofs.Ybulkaxti.lawS2452BKind
