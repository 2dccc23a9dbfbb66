/-
  checkSvcValue at the keys whose value is asked for its length alone.
-/
import Derived.Test.YbulkctnaFmtW1
import Derived.Test.YbulkctnaFmtPlain
namespace Go.Proofs.YbulkctnaFmt
open Go.RowKit Go.Extern.Stop Go.Stop Go.Extern
set_option linter.unusedVariables false

/-- It returns an error. -/
def Errs (e : Ending) : Prop := ∃ p, e = .returned (.iface 45 (.pointer p))

theorem f_int1 (w : World) : (FmtDoors.printed ⟨#[118, 97, 108, 117, 101, 32, 111, 102, 32, 37, 100, 32, 111, 99, 116, 101, 116, 115, 44, 32, 110, 111, 116, 32, 116, 104, 101, 32, 50, 32, 111, 102, 32, 97, 32, 112, 111, 114, 116]⟩ 1).run Ybaf.prog w = .ok [(0, 100, false)] w := by kernel_rfl
theorem f_int2 (w : World) : (FmtDoors.printed ⟨#[118, 97, 108, 117, 101, 32, 111, 102, 32, 37, 100, 32, 111, 99, 116, 101, 116, 115, 32, 105, 115, 32, 110, 111, 116, 32, 111, 110, 101, 32, 111, 114, 32, 109, 111, 114, 101, 32, 97, 100, 100, 114, 101, 115, 115, 101, 115, 32, 111, 102, 32, 37, 100, 32, 111, 99, 116, 101, 116, 115]⟩ 2).run Ybaf.prog w = .ok [(0, 100, false), (1, 100, false)] w := by kernel_rfl

set_option maxHeartbeats 400000 in
theorem check_other (key : Int) (ad : Option Addr) (n cap : Nat) (w : World) (h0 : (key == 0) = false) (h1 : (key == 1) = false) (h2 : (key == 2) = false) (h3 : (key == 3) = false) (h4 : (key == 4) = false) (h6 : (key == 6) = false) (h8 : (key == 8) = false) (h9 : (key == 65535) = false) :
    Calls Ybaf.prog 5 #[.int .u16 key, .slice ad n cap] w fun e w' => e = .returned .nilIface ∧ w' = w := by
  go_enter Ybaf.func5, Ybaf.ntmps5
  go_wp2
  go_ret
  exact ⟨rfl, rfl⟩

set_option maxHeartbeats 400000 in
theorem check_2_ok (ad : Option Addr) (cap : Nat) (w : World) :
    Calls Ybaf.prog 5 #[.int .u16 2, .slice ad 0 cap] w fun e w' => e = .returned .nilIface ∧ w' = w := by
  go_enter Ybaf.func5, Ybaf.ntmps5
  go_wp2
  go_ret
  exact ⟨rfl, rfl⟩
set_option maxHeartbeats 400000 in
theorem check_8_ok (ad : Option Addr) (cap : Nat) (w : World) :
    Calls Ybaf.prog 5 #[.int .u16 8, .slice ad 0 cap] w fun e w' => e = .returned .nilIface ∧ w' = w := by
  go_enter Ybaf.func5, Ybaf.ntmps5
  go_wp2
  go_ret
  exact ⟨rfl, rfl⟩
set_option maxHeartbeats 400000 in
theorem check_2_no (ad : Option Addr) (n cap : Nat) (hn : 0 < n) (w : World) :
    Calls Ybaf.prog 5 #[.int .u16 2, .slice ad n cap] w fun e w' => Errs e ∧ Below w.heap.size w w' := by
  have hnZ : (0 : Int) < (n : Int) := by omega
  go_enter Ybaf.func5, Ybaf.ntmps5
  go_wp2_with fail
  refine (errorf_plain _ (by decide +kernel) _).mono ?_
  rintro e w1 ⟨⟨p, rfl⟩, hb⟩
  go_wp2
  go_ret
  exact ⟨⟨p, rfl⟩, hb⟩
set_option maxHeartbeats 400000 in
theorem check_8_no (ad : Option Addr) (n cap : Nat) (hn : 0 < n) (w : World) :
    Calls Ybaf.prog 5 #[.int .u16 8, .slice ad n cap] w fun e w' => Errs e ∧ Below w.heap.size w w' := by
  have hnZ : (0 : Int) < (n : Int) := by omega
  go_enter Ybaf.func5, Ybaf.ntmps5
  go_wp2_with fail
  refine (errorf_plain _ (by decide +kernel) _).mono ?_
  rintro e w1 ⟨⟨p, rfl⟩, hb⟩
  go_wp2
  go_ret
  exact ⟨⟨p, rfl⟩, hb⟩
set_option maxHeartbeats 400000 in
theorem check_3_ok (ad : Option Addr) (cap : Nat) (w : World) :
    Calls Ybaf.prog 5 #[.int .u16 3, .slice ad 2 cap] w fun e w' => e = .returned .nilIface ∧ w' = w := by
  go_enter Ybaf.func5, Ybaf.ntmps5
  go_wp2
  go_ret
  exact ⟨rfl, rfl⟩
set_option maxHeartbeats 400000 in
theorem check_3_no (F : Interp) (ad : Option Addr) (n cap : Nat) (hn : n ≠ 2) (w : World) (hF : F.answers w.tape) :
    Calls Ybaf.prog 5 #[.int .u16 3, .slice ad n cap] w fun e w' => Errs e ∧ Below w.heap.size w w' := by
  have hnZ : ((n : Int) != 2) = true := by rw [bne_iff_ne]; omega
  have HF := hide hF
  clear hF hn
  go_enter Ybaf.func5, Ybaf.ntmps5
  go_wp2_with fail
  refine (errorf_int F _ f_int1 w.heap.size n _ (by exact unhide HF) (by simp)).mono ?_
  rintro e w1 ⟨⟨p, rfl⟩, hb⟩
  go_wp2
  go_ret
  exact ⟨⟨p, rfl⟩, ((Below.refl _ _).alloc (Nat.le_refl _) _).trans (hb.mono (by simp))⟩
set_option maxHeartbeats 400000 in
theorem check_65535 (ad : Option Addr) (n cap : Nat) (w : World) :
    Calls Ybaf.prog 5 #[.int .u16 65535, .slice ad n cap] w fun e w' => Errs e ∧ Below w.heap.size w w' := by
  go_enter Ybaf.func5, Ybaf.ntmps5
  go_wp2_with fail
  refine (errorf_plain _ (by decide +kernel) _).mono ?_
  rintro e w1 ⟨⟨p, rfl⟩, hb⟩
  go_wp2
  go_ret
  exact ⟨⟨p, rfl⟩, hb⟩
set_option maxHeartbeats 400000 in
theorem check_4_ok (ad : Option Addr) (n cap : Nat) (hn : 0 < n) (hm : n % 4 = 0) (hx : n ≤ 1000000) (w : World) :
    Calls Ybaf.prog 5 #[.int .u16 4, .slice ad n cap] w fun e w' => e = .returned .nilIface ∧ w' = w := by
  have h1 : ((n : Int) == 0) = false := beq_eq_false_iff_ne.2 (by omega)
  have h2 : ((n : Int) % 4 != 0) = false := by rw [bne_eq_false_iff_eq]; omega
  clear hm
  go_enter Ybaf.func5, Ybaf.ntmps5
  go_wp2
  go_ret
  exact ⟨rfl, rfl⟩
set_option maxHeartbeats 400000 in
theorem check_4_no (F : Interp) (ad : Option Addr) (n cap : Nat) (hn : n = 0 ∨ n % 4 ≠ 0) (hx : n ≤ 1000000) (w : World) (hF : F.answers w.tape) :
    Calls Ybaf.prog 5 #[.int .u16 4, .slice ad n cap] w fun e w' => Errs e ∧ Below w.heap.size w w' := by
  have HF := hide hF
  clear hF
  by_cases h0 : n = 0
  · subst h0
    clear hn
    go_enter Ybaf.func5, Ybaf.ntmps5
    go_wp2_with fail
    refine (errorf_ints F _ f_int2 w.heap.size 0 4 _ (by exact unhide HF) (by simp) (by simp)).mono ?_
    rintro e w1 ⟨⟨p, rfl⟩, hb⟩
    go_wp2
    go_ret
    exact ⟨⟨p, rfl⟩, ((Below.refl _ _).alloc (Nat.le_refl _) _).trans (hb.mono (by simp))⟩
  · have h1 : ((n : Int) == 0) = false := beq_eq_false_iff_ne.2 (by omega)
    have h2 : ((n : Int) % 4 != 0) = true := by rw [bne_iff_ne]; omega
    clear hn h0
    go_enter Ybaf.func5, Ybaf.ntmps5
    go_wp2_with fail
    refine (errorf_ints F _ f_int2 w.heap.size n 4 _ (by exact unhide HF) (by simp) (by simp)).mono ?_
    rintro e w1 ⟨⟨p, rfl⟩, hb⟩
    go_wp2
    go_ret
    exact ⟨⟨p, rfl⟩, ((Below.refl _ _).alloc (Nat.le_refl _) _).trans (hb.mono (by simp))⟩
set_option maxHeartbeats 400000 in
theorem check_6_ok (ad : Option Addr) (n cap : Nat) (hn : 0 < n) (hm : n % 16 = 0) (hx : n ≤ 1000000) (w : World) :
    Calls Ybaf.prog 5 #[.int .u16 6, .slice ad n cap] w fun e w' => e = .returned .nilIface ∧ w' = w := by
  have h1 : ((n : Int) == 0) = false := beq_eq_false_iff_ne.2 (by omega)
  have h2 : ((n : Int) % 16 != 0) = false := by rw [bne_eq_false_iff_eq]; omega
  clear hm
  go_enter Ybaf.func5, Ybaf.ntmps5
  go_wp2
  go_ret
  exact ⟨rfl, rfl⟩
set_option maxHeartbeats 400000 in
theorem check_6_no (F : Interp) (ad : Option Addr) (n cap : Nat) (hn : n = 0 ∨ n % 16 ≠ 0) (hx : n ≤ 1000000) (w : World) (hF : F.answers w.tape) :
    Calls Ybaf.prog 5 #[.int .u16 6, .slice ad n cap] w fun e w' => Errs e ∧ Below w.heap.size w w' := by
  have HF := hide hF
  clear hF
  by_cases h0 : n = 0
  · subst h0
    clear hn
    go_enter Ybaf.func5, Ybaf.ntmps5
    go_wp2_with fail
    refine (errorf_ints F _ f_int2 w.heap.size 0 16 _ (by exact unhide HF) (by simp) (by simp)).mono ?_
    rintro e w1 ⟨⟨p, rfl⟩, hb⟩
    go_wp2
    go_ret
    exact ⟨⟨p, rfl⟩, ((Below.refl _ _).alloc (Nat.le_refl _) _).trans (hb.mono (by simp))⟩
  · have h1 : ((n : Int) == 0) = false := beq_eq_false_iff_ne.2 (by omega)
    have h2 : ((n : Int) % 16 != 0) = true := by rw [bne_iff_ne]; omega
    clear hn h0
    go_enter Ybaf.func5, Ybaf.ntmps5
    go_wp2_with fail
    refine (errorf_ints F _ f_int2 w.heap.size n 16 _ (by exact unhide HF) (by simp) (by simp)).mono ?_
    rintro e w1 ⟨⟨p, rfl⟩, hb⟩
    go_wp2
    go_ret
    exact ⟨⟨p, rfl⟩, ((Below.refl _ _).alloc (Nat.le_refl _) _).trans (hb.mono (by simp))⟩
end Go.Proofs.YbulkctnaFmt
