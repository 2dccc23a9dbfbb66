/-
  A step of the range coder: the plain law.
-/
import Derived.Test.YbulkctsyP1
namespace Go.Proofs.Ybulkctsy
set_option linter.unusedVariables false

theorem kk_fit {r : Nat} (h : r < 4294967296) : r * 256 ^ kk r < 4294967296 := by
  unfold kk
  split
  · simp; exact h
  · split
    · simp; omega
    · simp; omega
theorem half_lt {s : St} (bit z : Nat) (hr2 : s.rng < 4294967296) (hz : z < 4294967296) : (halfP s bit z).rng < 4294967296 := by
  unfold halfP
  split
  · exact hz
  · show s.rng - z < _; omega

structure StepF (s t : St) (r N : Nat) : Prop where
  inv : Inv t
  rng : t.rng = r * 256 ^ kk r
  val : t.val = N * 256 ^ kk r
  r1 : 16777216 ≤ t.rng
  r2 : t.rng < 4294967296
  size : t.bs.length + t.pe ≤ s.bs.length + s.pe + 2

theorem step_facts {s : St} (h : Inv s) (hr2 : s.rng < 4294967296) (bit z : Nat) (hz2 : 256 ≤ z) (hz3 : z + 256 ≤ s.rng) (hz4 : z < 4294967296) : StepF s (encP s bit z) (halfP s bit z).rng (halfP s bit z).val := by
  obtain ⟨a1, a2, a3, a4, a5⟩ := rounds_all (kk (halfP s bit z).rng) (halfP s bit z) (half_inv h bit z hz3) (half_rng bit z hz3 hz2) rfl
  refine ⟨a1, a2, a3, a4, ?_, ?_⟩
  · show (rounds (kk (halfP s bit z).rng) (halfP s bit z)).rng < _
    rw [a2]; exact kk_fit (half_lt bit z hr2 hz4)
  · have h1 := half_bs s bit z
    have h2 := kk_le (halfP s bit z).rng
    rw [h1.1, h1.2] at a5
    show (rounds (kk (halfP s bit z).rng) (halfP s bit z)).bs.length + (rounds (kk (halfP s bit z).rng) (halfP s bit z)).pe ≤ _
    omega
end Go.Proofs.Ybulkctsy
