/-
  THE PLAIN MATHEMATICS OF THE SKIP POINTERS: no Go in sight. 'span h': what zzs2453cspan reckons, for h up to 1024; 'skipOf i': where node i's skip pointer leads; the rule of newNode.
-/
namespace Go.Proofs.Ybulkaxtw.Plain

/-- The inner loop: from m on, by 2m+1, as long as that is at most h. -/
def topF : Nat → Nat → Nat → Nat
  | 0, m, _ => m
  | f + 1, m, h => if 2 * m + 1 ≤ h then topF f (2 * m + 1) h else m

def top (h : Nat) : Nat := topF 11 1 h

/-- The outer loop. -/
def spanF : Nat → Nat → Nat
  | 0, _ => 0
  | f + 1, h => if h = 0 then 0 else if (h + 1) &&& h = 0 then h else spanF f (h - top h)

def span (h : Nat) : Nat := spanF 12 h

theorem topF_stop (f m h : Nat) (hm : h < 2 * m + 1) : topF f m h = m := by
  cases f with
  | zero => rfl
  | succ f => unfold topF; rw [if_neg (by omega)]

theorem topF_go (f m h : Nat) (hm : 2 * m + 1 ≤ h) : topF (f + 1) m h = topF f (2 * m + 1) h := by
  conv => lhs; unfold topF
  rw [if_pos hm]

theorem span_zero : span 0 = 0 := rfl

theorem span_hit (h : Nat) (h0 : 0 < h) (hz : (h + 1) &&& h = 0) : span h = h := by
  unfold span spanF
  rw [if_neg (by omega), if_pos hz]

set_option maxRecDepth 100000 in
theorem span_all : ∀ h, h < 1025 → (1 ≤ h → (1 ≤ span h ∧ span h ≤ h)) ∧ (0 < h → ¬ (h + 1) &&& h = 0 → span h = span (h - top h) ∧ 1 ≤ top h ∧ top h ≤ h) := by
  decide +kernel

theorem span_bounds (h : Nat) (h1 : 1 ≤ h) (h2 : h ≤ 1024) : 1 ≤ span h ∧ span h ≤ h := (span_all h (by omega)).1 h1

theorem span_miss (h : Nat) (h0 : 0 < h) (h2 : h ≤ 1024) (hz : ¬ (h + 1) &&& h = 0) : span h = span (h - top h) ∧ 1 ≤ top h ∧ top h ≤ h := (span_all h (by omega)).2 h0 hz

/-- Where node i's skip pointer leads. -/
def skipOf (i : Nat) : Nat := i - span i

theorem skip_zero : skipOf 0 = 0 := rfl
theorem skip_le (i : Nat) : skipOf i ≤ i := Nat.sub_le _ _

set_option maxRecDepth 100000 in
theorem skip_all : ∀ k, k < 1024 → skipOf (k + 1) = if k - skipOf k = skipOf k - skipOf (skipOf k) then skipOf (skipOf k) else k := by
  decide +kernel

/-- THE RULE OF newNode. -/
theorem skip_step (k : Nat) (hk : k < 1024) : skipOf (k + 1) = if k - skipOf k = skipOf k - skipOf (skipOf k) then skipOf (skipOf k) else k := skip_all k hk

end Go.Proofs.Ybulkaxtw.Plain
