/-
  THE WALK OF zzs2453cspan (function 5), for h up to 1024: it hands back 'Plain.span h' and turns nothing.
-/
import Derived.Test.YbulkaxtwRows
import Derived.Test.YbulkaxtwPlain
import Derived.WalkKit
import Derived.ProofKit
import Derived.OpenShut
import Derived.Handy
namespace Go.Proofs.Ybulkaxtw
open Go.ChangeShapes Go.WideShapes Go.ChangeAt Go.RowKit

theorem ret_int {k : IntKind} {a b : Int} (h : a = b) : Ending.returned (.int k a) = .returned (.int k b) := by rw [h]

theorem and_zero (x : Nat) (hx : x ≤ 1024) : bits .and .u64 ((x : Int) + 1) (x : Int) = (((x + 1) &&& x : Nat) : Int) := by
  have h := u64_and_nat (x + 1) x (by omega) (by omega)
  simpa using h

set_option maxHeartbeats 2000000 in
theorem span_any (h : Nat) (hh : h ≤ 1024) (w : World) :
    Calls Yba.prog 5 #[.int .u64 (h : Int)] w fun e w' => e = .returned (.int .u64 (Plain.span h : Nat)) ∧ w' = w := by
  go_enter Yba.func5, Yba.ntmps5
  go_wp2
  go_loop [0] (fun t => ∃ x : Nat, x ≤ 1024 ∧ t = .int .u64 (x : Int) ∧ Hid (Plain.span h = Plain.span x)) (fun t => (intOf t).toNat)
  case atStart => exact ⟨h, hh, rfl, rfl⟩
  case round =>
    obtain ⟨x, hx, rfl, HS⟩ := hrel
    by_cases h0 : 0 < x
    · by_cases hz : (x + 1) &&& x = 0
      · have hb : (bits .and .u64 ((x : Int) + 1) (x : Int) == 0) = true := by rw [and_zero x hx, hz]; rfl
        have HZ : Hid ((x + 1) &&& x = 0) := hz
        clear hz
        go_wp2
        go_ret
        exact ⟨ret_int (by rw [HS.out, Plain.span_hit x h0 HZ.out]), rfl⟩
      · have hb : (bits .and .u64 ((x : Int) + 1) (x : Int) == 0) = false := by
          rw [and_zero x hx]
          simp only [beq_eq_false_iff_ne, ne_eq]
          omega
        have HM : Hid (Plain.span x = Plain.span (x - Plain.top x) ∧ 1 ≤ Plain.top x ∧ Plain.top x ≤ x) := Plain.span_miss x h0 hx hz
        clear hz
        go_wp2
        go_loop [3] (fun t => ∃ m f : Nat, 1 ≤ m ∧ m ≤ x ∧ t = .int .u64 (m : Int) ∧ Hid (x < 2 ^ f * (m + 1) ∧ Plain.topF f m x = Plain.top x)) (fun t => x - (intOf t).toNat)
        case atStart => exact ⟨1, 11, by omega, by omega, rfl, by show _ ∧ _; exact ⟨by omega, rfl⟩⟩
        case round =>
          obtain ⟨m, f, hm1, hm2, rfl, HF⟩ := hrel
          by_cases hlt : 2 * m + 1 ≤ x
          · go_wp2
            go_round
            case rel =>
              obtain ⟨h1, h2⟩ := HF.out
              cases f with
              | zero => omega
              | succ f =>
                have e : 2 * m + 1 + 1 = 2 * (m + 1) := by omega
                rw [Nat.pow_succ, Nat.mul_assoc] at h1
                have k1 : x < 2 ^ f * (2 * m + 1 + 1) := by rw [e]; exact h1
                have k2 : Plain.topF f (2 * m + 1) x = Plain.top x := by rw [← Plain.topF_go f m x hlt]; exact h2
                exact ⟨2 * m + 1, f, by omega, by omega, by go_num, ⟨k1, k2⟩⟩
            case measure => simp [intOf]; omega
          · go_wp2
            obtain ⟨h1, h2⟩ := HF.out
            rw [Plain.topF_stop f m x (by omega)] at h2
            obtain ⟨k1, k2, k3⟩ := HM.out
            rw [← h2] at k1
            have k4 : Plain.span h = Plain.span (x - m) := by rw [HS.out]; exact k1
            exact ⟨⟨x - m, by omega, by go_num, k4⟩, by simp [intOf]; omega⟩
    · go_wp2
      go_ret
      exact ⟨ret_int (by rw [HS.out, show x = 0 from by omega]; rfl), rfl⟩
end Go.Proofs.Ybulkaxtw
