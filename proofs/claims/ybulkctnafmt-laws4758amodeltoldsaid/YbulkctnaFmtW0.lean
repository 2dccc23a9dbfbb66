/-
  CLOSED FACTS on fmt.errorf (function 10 of this dump, a stop) and its operands; the contracts of fmt.Errorf (function 7) at the shapes that checkSvcValue hands it.
-/
import Derived.Test.YbulkctnaFmtRows
import Derived.Stop.CallBack
import Derived.Stop.IfaceNil
import GoSem.ClaimData
import Derived.WalkKit
import Derived.WalkSpells
import Derived.WalkLawsBesides
namespace Go.Proofs.YbulkctnaFmt
open Go.RowKit Go.Extern.Stop Go.Stop Go.Extern
set_option linter.unusedVariables false

theorem hide {p : Prop} (h : p) : Hid p := h
theorem unhide {p : Prop} (h : Hid p) : p := h

theorem call10 (args : Array Value) (w : World) : (callFunc 10 args).run Ybaf.prog w = ((FmtStop.errorf #[9, 39] #[26] args).run Ybaf.prog w).andThen fun v w' => .ok (.value v) w' :=
  run_callFunc_extern Ybaf.func10 (by kernel_rfl) (by kernel_rfl) (by kernel_rfl) (by kernel_rfl) args w
theorem guard_ok (name : String) (w : World) : (FmtStop.guard name).run Ybaf.prog w = .ok () w := by kernel_rfl

def shape3 : List UInt8 := [5, 3, 0, 0, 0, 0, 0, 0, 0, 105, 110, 116]
def shape9 : List UInt8 := [12, 6, 0, 0, 0, 0, 0, 0, 0, 115, 116, 114, 105, 110, 103]
theorem op3_100w (name : String) (x : Int) (w : World) : (FmtStop.operand name true 100 false (.iface 3 (.int .i64 x))).run Ybaf.prog w = .ok (shape3, Go.Extern.Stop.digits 8 (x % 2 ^ 64).toNat) w := by kernel_rfl
theorem op9_115w (name : String) (x : ByteArray) (w : World) : (FmtStop.operand name true 115 false (.iface 9 (.string x))).run Ybaf.prog w = .ok (shape9, FmtStop.pack x.data.toList) w := by kernel_rfl
theorem ptr45 (w : World) : (FmtStop.ptrTo "errors.errorString").run Ybaf.prog w = .ok 45 w := by kernel_rfl
theorem elem45 (w : World) : (elemOf 45).run Ybaf.prog w = .ok 47 w := by kernel_rfl
attribute [local go_sem] call10 guard_ok op3_100w op9_115w ptr45 elem45

/-- A format without operands and without a verb. -/
theorem errorf_plain (f : ByteArray) (hf : f.data.contains 37 = false) (w : World) :
    Calls Ybaf.prog 7 #[.string f, .slice none 0 0] w fun e w' => (∃ p, e = .returned (.iface 45 (.pointer p))) ∧ Below w.heap.size w w' := by
  have hm : ¬ (37 : UInt8) ∈ f.data := by simpa using hf
  go_enter Ybaf.func7, Ybaf.ntmps7
  go_wp2
  go_ret
  exact ⟨⟨_, rfl⟩, (Below.refl _ _).alloc (Nat.le_refl _) _⟩

theorem errorf_int (F : Interp) (f : ByteArray) (hf : ∀ w, (FmtDoors.printed f 1).run Ybaf.prog w = .ok [(0, 100, false)] w) (blk : Nat) (n : Int) (w : World) (hF : F.answers w.tape) (hc : w.cell? ⟨blk, 0, none⟩ = some (.iface 3 (.int .i64 n))) :
    Calls Ybaf.prog 7 #[.string f, .slice (some ⟨blk, 0, none⟩) 1 1] w fun e w' => (∃ p, e = .returned (.iface 45 (.pointer p))) ∧ Below w.heap.size w w' := by
  have hF' : ∀ i name reading k range, w.tape i (.extern (word name reading k) range) = F name reading k := hF
  go_enter Ybaf.func7, Ybaf.ntmps7
  go_wp2
  go_ret
  exact ⟨⟨_, rfl⟩, ((Below.refl _ _).alloc (Nat.le_refl _) _).drew⟩

theorem errorf_str (F : Interp) (f : ByteArray) (hf : ∀ w, (FmtDoors.printed f 1).run Ybaf.prog w = .ok [(0, 115, false)] w) (blk : Nat) (x : ByteArray) (w : World) (hF : F.answers w.tape) (hc : w.cell? ⟨blk, 0, none⟩ = some (.iface 9 (.string x))) :
    Calls Ybaf.prog 7 #[.string f, .slice (some ⟨blk, 0, none⟩) 1 1] w fun e w' => (∃ p, e = .returned (.iface 45 (.pointer p))) ∧ Below w.heap.size w w' := by
  have hF' : ∀ i name reading k range, w.tape i (.extern (word name reading k) range) = F name reading k := hF
  go_enter Ybaf.func7, Ybaf.ntmps7
  go_wp2
  go_ret
  exact ⟨⟨_, rfl⟩, ((Below.refl _ _).alloc (Nat.le_refl _) _).drew⟩

theorem errorf_ints (F : Interp) (f : ByteArray) (hf : ∀ w, (FmtDoors.printed f 2).run Ybaf.prog w = .ok [(0, 100, false), (1, 100, false)] w) (blk : Nat) (n m : Int) (w : World) (hF : F.answers w.tape)
    (hc : w.cell? ⟨blk, 0, none⟩ = some (.iface 3 (.int .i64 n))) (hc1 : w.cell? ⟨blk, 1, none⟩ = some (.iface 3 (.int .i64 m))) :
    Calls Ybaf.prog 7 #[.string f, .slice (some ⟨blk, 0, none⟩) 2 2] w fun e w' => (∃ p, e = .returned (.iface 45 (.pointer p))) ∧ Below w.heap.size w w' := by
  have hF' : ∀ i name reading k range, w.tape i (.extern (word name reading k) range) = F name reading k := hF
  go_enter Ybaf.func7, Ybaf.ntmps7
  go_wp2
  go_ret
  exact ⟨⟨_, rfl⟩, ((Below.refl _ _).alloc (Nat.le_refl _) _).drew⟩
end Go.Proofs.YbulkctnaFmt
