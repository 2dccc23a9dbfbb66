/-
  The encoder in memory; clamp, NewEncoder.
-/
import Derived.Test.YbulkctsyC3
import Derived.Deep.AppendLies
namespace Go.Proofs.Ybulkctsy
open Go.RowKit
set_option linter.unusedVariables false

def clampN (p : Nat) : Nat := if p < 1 then 1 else if 65535 < p then 65535 else p
theorem clampN_bd (p : Nat) : 1 ≤ clampN p ∧ clampN p ≤ 65535 := by
  unfold clampN; split
  · omega
  · split <;> omega

/-- The six cells of an Encoder. -/
def encF (low rng : Nat) (st : Bool) (ca pe : Nat) (ov : Value) : Nat → Value := fun i =>
  if i = 0 then .int .u64 (low : Int) else if i = 1 then .int .u32 (rng : Int) else if i = 2 then .bool st else if i = 3 then .int .u8 (ca : Int) else if i = 4 then .int .i64 (pe : Int) else ov
def EncAt (w : World) (E low rng : Nat) (st : Bool) (ca pe : Nat) (ov : Value) : Prop := w.rowIs E 41 6 (encF low rng st ca pe ov)
/-- Bytes as values. -/
def bvals (bs : List Nat) : List Value := bs.map fun b => .int .u8 ((b : Nat) : Int)
/-- The bytes written. -/
def OutV (w : World) (base : Nat) (ov : Value) (bs : List Nat) : Prop := w.ownsRow base 5 1 ov bs.length (bvals bs)

theorem enc_low {w : World} {E low rng ca pe : Nat} {st : Bool} {ov : Value} (h : EncAt w E low rng st ca pe ov) (x : Nat) : EncAt (w.setCell ⟨E, 0, none⟩ (.int .u64 (x : Int))) E x rng st ca pe ov :=
  World.rowIs.congr (World.rowIs.set h 0 _) (fun j hj => by match j, hj with | 0, _ => rfl | 1, _ => rfl | 2, _ => rfl | 3, _ => rfl | 4, _ => rfl | 5, _ => rfl)
theorem enc_rng {w : World} {E low rng ca pe : Nat} {st : Bool} {ov : Value} (h : EncAt w E low rng st ca pe ov) (x : Nat) : EncAt (w.setCell ⟨E, 1, none⟩ (.int .u32 (x : Int))) E low x st ca pe ov :=
  World.rowIs.congr (World.rowIs.set h 1 _) (fun j hj => by match j, hj with | 0, _ => rfl | 1, _ => rfl | 2, _ => rfl | 3, _ => rfl | 4, _ => rfl | 5, _ => rfl)
theorem enc_st {w : World} {E low rng ca pe : Nat} {st : Bool} {ov : Value} (h : EncAt w E low rng st ca pe ov) (x : Bool) : EncAt (w.setCell ⟨E, 2, none⟩ (.bool x)) E low rng x ca pe ov :=
  World.rowIs.congr (World.rowIs.set h 2 _) (fun j hj => by match j, hj with | 0, _ => rfl | 1, _ => rfl | 2, _ => rfl | 3, _ => rfl | 4, _ => rfl | 5, _ => rfl)
theorem enc_ca {w : World} {E low rng ca pe : Nat} {st : Bool} {ov : Value} (h : EncAt w E low rng st ca pe ov) (x : Nat) : EncAt (w.setCell ⟨E, 3, none⟩ (.int .u8 (x : Int))) E low rng st x pe ov :=
  World.rowIs.congr (World.rowIs.set h 3 _) (fun j hj => by match j, hj with | 0, _ => rfl | 1, _ => rfl | 2, _ => rfl | 3, _ => rfl | 4, _ => rfl | 5, _ => rfl)
theorem enc_pe {w : World} {E low rng ca pe : Nat} {st : Bool} {ov : Value} (h : EncAt w E low rng st ca pe ov) (x : Nat) : EncAt (w.setCell ⟨E, 4, none⟩ (.int .i64 (x : Int))) E low rng st ca x ov :=
  World.rowIs.congr (World.rowIs.set h 4 _) (fun j hj => by match j, hj with | 0, _ => rfl | 1, _ => rfl | 2, _ => rfl | 3, _ => rfl | 4, _ => rfl | 5, _ => rfl)
theorem enc_ov {w : World} {E low rng ca pe : Nat} {st : Bool} {ov : Value} (h : EncAt w E low rng st ca pe ov) (x : Value) : EncAt (w.setCell ⟨E, 5, none⟩ x) E low rng st ca pe x :=
  World.rowIs.congr (World.rowIs.set h 5 _) (fun j hj => by match j, hj with | 0, _ => rfl | 1, _ => rfl | 2, _ => rfl | 3, _ => rfl | 4, _ => rfl | 5, _ => rfl)
theorem EncAt.cells {w : World} {E low rng ca pe : Nat} {st : Bool} {ov : Value} (h : EncAt w E low rng st ca pe ov) :
    w.cell? ⟨E, 0, none⟩ = some (.int .u64 (low : Int)) ∧ w.cell? ⟨E, 1, none⟩ = some (.int .u32 (rng : Int)) ∧ w.cell? ⟨E, 2, none⟩ = some (.bool st) ∧ w.cell? ⟨E, 3, none⟩ = some (.int .u8 (ca : Int)) ∧ w.cell? ⟨E, 4, none⟩ = some (.int .i64 (pe : Int)) ∧ w.cell? ⟨E, 5, none⟩ = some ov :=
  ⟨World.rowIs.cell h (i := 0) (by omega), World.rowIs.cell h (i := 1) (by omega), World.rowIs.cell h (i := 2) (by omega), World.rowIs.cell h (i := 3) (by omega), World.rowIs.cell h (i := 4) (by omega), World.rowIs.cell h (i := 5) (by omega)⟩
theorem EncAt.frz {w : World} {E low rng ca pe : Nat} {st : Bool} {ov : Value} (h : EncAt w E low rng st ca pe ov) (i : Nat) : w.frozen? ⟨E, i, none⟩ = false := World.rowIs.frozen h i
theorem EncAt.lt {w : World} {E low rng ca pe : Nat} {st : Bool} {ov : Value} (h : EncAt w E low rng st ca pe ov) : E < w.heap.size := World.rowIs.lt h

set_option maxRecDepth 20000 in
theorem clamp_any (p : Nat) (hp : p < 4294967296) (w : World) : Calls Yba.prog 24 #[.int .u32 (p : Int)] w fun e w' => e = .returned (.int .u32 (clampN p : Int)) ∧ w' = w := by
  unfold clampN
  by_cases h1 : p < 1
  · have a1 : (p : Int) < 1 := by omega
    rw [if_pos h1]
    go_enter Yba.func24, Yba.ntmps24
    go_wp2
    go_ret
    exact ⟨rfl, rfl⟩
  · rw [if_neg h1]
    have a1 : ¬ (p : Int) < 1 := by omega
    by_cases h2 : 65535 < p
    · rw [if_pos h2]
      have a2 : (65535 : Int) < (p : Int) := by omega
      go_enter Yba.func24, Yba.ntmps24
      go_wp2
      go_ret
      exact ⟨rfl, rfl⟩
    · rw [if_neg h2]
      have a2 : ¬ (65535 : Int) < (p : Int) := by omega
      go_enter Yba.func24, Yba.ntmps24
      go_wp2
      go_ret
      exact ⟨rfl, rfl⟩
end Go.Proofs.Ybulkctsy
