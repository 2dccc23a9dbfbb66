/-
  byteorder.BEUint64, bigEndianWord: their walks; the number of a row of bytes.
-/
import Derived.Test.YbulkctsyB9
import Derived.Lib.EndianBits
namespace Go.Proofs.Ybulkctsy
open Go.RowKit
set_option linter.unusedVariables false

/-- The number of the first n bytes, the greatest first. -/
def bval (d : Nat → Nat) : Nat → Nat
  | 0 => 0
  | n + 1 => bval d n * 256 + d n

theorem bval_lt {d : Nat → Nat} (hd : ∀ i, d i < 256) : ∀ n, bval d n < 256 ^ n
  | 0 => by simp [bval]
  | n + 1 => by
    have := bval_lt hd n
    have := hd n
    rw [bval, Nat.pow_succ]
    omega

set_option maxRecDepth 20000 in
set_option maxHeartbeats 800000 in
theorem be64_at (g o n c : Nat) (x0 x1 x2 x3 x4 x5 x6 x7 : Nat) (hn : 8 ≤ n) (w : World)
    (h0 : x0 < 256) (h1 : x1 < 256) (h2 : x2 < 256) (h3 : x3 < 256) (h4 : x4 < 256) (h5 : x5 < 256) (h6 : x6 < 256) (h7 : x7 < 256)
    (c0 : w.cell? ⟨g, o, none⟩ = some (.int .u8 (x0 : Int))) (c1 : w.cell? ⟨g, o + 1, none⟩ = some (.int .u8 (x1 : Int))) (c2 : w.cell? ⟨g, o + 2, none⟩ = some (.int .u8 (x2 : Int))) (c3 : w.cell? ⟨g, o + 3, none⟩ = some (.int .u8 (x3 : Int)))
    (c4 : w.cell? ⟨g, o + 4, none⟩ = some (.int .u8 (x4 : Int))) (c5 : w.cell? ⟨g, o + 5, none⟩ = some (.int .u8 (x5 : Int))) (c6 : w.cell? ⟨g, o + 6, none⟩ = some (.int .u8 (x6 : Int))) (c7 : w.cell? ⟨g, o + 7, none⟩ = some (.int .u8 (x7 : Int))) :
    Calls Yba.prog 46 #[.slice (some ⟨g, o, none⟩) n c] w fun e w' => e = .returned (.int .u64 ((x7 + x6 * 256 + x5 * 65536 + x4 * 16777216 + x3 * 4294967296 + x2 * 1099511627776 + x1 * 281474976710656 + x0 * 72057594037927936 : Nat) : Int)) ∧ ∃ n, w' = w.drewN n := by
  have q0 : 0 < n := by omega
  have q1 : (1 : Int) < (n : Int) := by omega
  have q2 : (2 : Int) < (n : Int) := by omega
  have q3 : (3 : Int) < (n : Int) := by omega
  have q4 : (4 : Int) < (n : Int) := by omega
  have q5 : (5 : Int) < (n : Int) := by omega
  have q6 : (6 : Int) < (n : Int) := by omega
  have q7 : (7 : Int) < (n : Int) := by omega
  go_enter Yba.func46, Yba.ntmps46
  go_wp2
  go_quiet (fail)
  go_wp2
  go_ret
  refine ⟨?_, _, rfl⟩
  simp (disch := omega) only [u64_or8, u64_or16, u64_or24, u64_or32, u64_or40, u64_or48, u64_or56]
  have hv : ((x7 + x6 * 256 + x5 * 65536 + x4 * 16777216 + x3 * 4294967296 + x2 * 1099511627776 + x1 * 281474976710656 + x0 * 72057594037927936 : Nat) : Int) = (x7 : Int) + (x6 : Int) * 256 + (x5 : Int) * 65536 + (x4 : Int) * 16777216 + (x3 : Int) * 4294967296 + (x2 : Int) * 1099511627776 + (x1 : Int) * 281474976710656 + (x0 : Int) * 72057594037927936 := by omega
  rw [hv]
  rfl

theorem bval_8 (d : Nat → Nat) (i : Nat) : bval d (i + 8) = bval d i * 18446744073709551616 + (d (i + 7) + d (i + 6) * 256 + d (i + 5) * 65536 + d (i + 4) * 16777216 + d (i + 3) * 4294967296 + d (i + 2) * 1099511627776 + d (i + 1) * 281474976710656 + d i * 72057594037927936) := by
  rw [bval, bval, bval, bval, bval, bval, bval, bval]
  omega

set_option maxRecDepth 20000 in
set_option maxHeartbeats 400000 in
theorem beWord_at (g o n c : Nat) (d : Nat → Nat) (hd : ∀ i, d i < 256) (hn : 8 ≤ n) (w : World) (hc : ∀ j, j < 8 → w.cell? ⟨g, o + j, none⟩ = some (.int .u8 ((d (o + j) : Nat) : Int))) (x : Nat) (hx : bval d (o + 8) = bval d o * 18446744073709551616 + x) :
    Calls Yba.prog 45 #[.slice (some ⟨g, o, none⟩) n c] w fun e w' => e = .returned (.int .u64 ((x : Nat) : Int)) ∧ ∃ n, w' = w.drewN n := by
  have e := bval_8 d o
  have hx2 : x = d (o + 7) + d (o + 6) * 256 + d (o + 5) * 65536 + d (o + 4) * 16777216 + d (o + 3) * 4294967296 + d (o + 2) * 1099511627776 + d (o + 1) * 281474976710656 + d o * 72057594037927936 := by omega
  have HA := hide (be64_at g o n c (d o) (d (o + 1)) (d (o + 2)) (d (o + 3)) (d (o + 4)) (d (o + 5)) (d (o + 6)) (d (o + 7)) hn w (hd _) (hd _) (hd _) (hd _) (hd _) (hd _) (hd _) (hd _)
    (hc 0 (by omega)) (hc 1 (by omega)) (hc 2 (by omega)) (hc 3 (by omega)) (hc 4 (by omega)) (hc 5 (by omega)) (hc 6 (by omega)) (hc 7 (by omega)))
  rw [← hx2] at HA
  clear hx2 e hx hc hd
  go_enter Yba.func45, Yba.ntmps45
  go_wp2_with fail
  refine (unhide HA).mono ?_
  rintro e w' ⟨rfl, hw⟩
  have HW := hide hw
  clear hw
  go_wp2
  go_ret
  exact ⟨rfl, unhide HW⟩
end Go.Proofs.Ybulkctsy
