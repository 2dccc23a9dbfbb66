/-
  THE LAW 'ANY': its walk.
-/
import Derived.Test.YbulkctnaL1
namespace Go.Proofs.Ybulkctna
open Go.RowKit
set_option linter.unusedVariables false

set_option maxHeartbeats 400000 in
theorem any_long (a0 a1 a2 : Option Addr) (n0 n1 n2 c0 c1 c2 : Nat) (w : World) (h : 300 < n0 ∨ 300 < n1 ∨ 300 < n2) :
    Calls Yba.prog 4 #[.slice a0 n0 c0, .slice a1 n1 c1, .slice a2 n2 c2] w fun e w' => e = .returned (.bool true) ∧ Below w.heap.size w w' := by
  by_cases h0 : 300 < n0
  · have h0Z : (300 : Int) < (n0 : Int) := by omega
    clear h
    go_enter Yba.func4, Yba.ntmps4
    go_wp2
    go_ret
    exact ⟨rfl, Below.refl _ _⟩
  by_cases h1 : 300 < n1
  · have h0Z : ¬ (300 : Int) < (n0 : Int) := by omega
    have h1Z : (300 : Int) < (n1 : Int) := by omega
    clear h
    go_enter Yba.func4, Yba.ntmps4
    go_wp2
    go_ret
    exact ⟨rfl, Below.refl _ _⟩
  have h0Z : ¬ (300 : Int) < (n0 : Int) := by omega
  have h1Z : ¬ (300 : Int) < (n1 : Int) := by omega
  have h2Z : (300 : Int) < (n2 : Int) := by omega
  clear h
  go_enter Yba.func4, Yba.ntmps4
  go_wp2
  go_ret
  exact ⟨rfl, Below.refl _ _⟩

/-- ReplaceSuffix, where the suffix is not there. -/
theorem repl_no (A B : List Dns.Bytes) (hA : Dns.Ok A) (hB : Dns.Ok B) (HI : Hid (Dns.isSub A B = false)) (s t v : ByteArray) (hs : Hid (s = S (Dns.wireN A))) (ht : Hid (t = S (Dns.wireN B)))
    (hmA : A.length ≤ 300) (hmB : B.length ≤ 300) (hv : v.size ≤ 19200) (w : World) :
    Calls Yba.prog 8 #[nm s, nm t, nm v] w fun e w' => e = .returned (.tuple #[nm ⟨#[]⟩, .bool false]) ∧ Below w.heap.size w w' := by
  refine (repl_any A B hA hB s t v hs ht (by omega) (by omega) (by omega) w).mono ?_
  rintro e w' ⟨rfl, hb⟩
  exact ⟨by rw [Dns.any_repl_no _ (unhide HI)], hb⟩

/-- ReplaceSuffix, where it is. -/
theorem repl_yes (A B : List Dns.Bytes) (hA : Dns.Ok A) (hB : Dns.Ok B) (HI : Hid (Dns.isSub A B = true)) (s t v pw : ByteArray) (hs : Hid (s = S (Dns.wireN A))) (ht : Hid (t = S (Dns.wireN B)))
    (hp : Hid (pw = S (Dns.wireN (A.take (A.length - B.length)))))
    (hmA : A.length ≤ 300) (hmB : B.length ≤ 300) (hv : v.size ≤ 19200) (w : World) :
    Calls Yba.prog 8 #[nm s, nm t, nm v] w fun e w' => e = .returned (if 255 < pw.size + v.size + 1 then .tuple #[nm ⟨#[]⟩, .bool false] else .tuple #[nm (pw ++ v), .bool true]) ∧ Below w.heap.size w w' := by
  refine (repl_any A B hA hB s t v hs ht (by omega) (by omega) (by omega) w).mono ?_
  rintro e w' ⟨rfl, hb⟩
  refine ⟨?_, hb⟩
  have e1 : (Dns.wireN (A.take (A.length - B.length))).length = pw.size := by rw [unhide hp, S_size]
  have e2 : v.data.toList.length = v.size := by simp
  rw [Dns.any_repl_yes _ (unhide HI), e1, e2]
  split
  · rfl
  · show Ending.returned (.tuple #[nm (S (Dns.wireN _ ++ v.data.toList)), .bool true]) = _
    rw [S_append, S_data, ← unhide hp]

set_option maxRecDepth 20000 in
set_option maxHeartbeats 1000000 in
theorem any_less (a0 a1 a2 : Option Addr) (c0 c1 c2 : Nat) (N0 S0 W0 : List Dns.Bytes) (w : World)
    (h0 : N0.length ≤ 300) (h1 : S0.length ≤ 300) (h2 : W0.length ≤ 300) (hc0 : Cells w a0 N0) (hc1 : Cells w a1 S0) (hc2 : Cells w a2 W0) (hlt : (Dns.norm N0).length < (Dns.norm S0).length) :
    Calls Yba.prog 4 #[.slice a0 N0.length c0, .slice a1 S0.length c1, .slice a2 W0.length c2] w fun e w' => e = .returned (.bool true) ∧ Below w.heap.size w w' := by
  have h0Z : ¬ (300 : Int) < (N0.length : Int) := by omega
  have h1Z : ¬ (300 : Int) < (S0.length : Int) := by omega
  have h2Z : ¬ (300 : Int) < (W0.length : Int) := by omega
  go_enter Yba.func4, Yba.ntmps4
  go_wp2_with fail
  refine (norm_any a0 N0.length c0 N0 rfl w hc0 h0).mono ?_
  rintro e w1 ⟨ad1, cap1, rfl, hcap1, hcN, hb1⟩
  have hN := Dns.norm_ok N0
  have hNn := Nat.le_trans (Dns.norm_length_le N0) h0
  generalize Dns.norm N0 = N at *
  go_wp2_with fail
  refine (norm_any a1 S0.length c1 S0 rfl w1 (hc1.below hb1 (Nat.le_refl _)) h1).mono ?_
  rintro e w2 ⟨ad2, cap2, rfl, hcap2, hcS, hb2⟩
  have hS := Dns.norm_ok S0
  have hSn := Nat.le_trans (Dns.norm_length_le S0) h1
  generalize Dns.norm S0 = B at *
  have hb12 := hb1.trans (hb2.mono hb1.size)
  go_wp2_with fail
  refine (wire_named a2 W0.length c2 W0 rfl w2 (hc2.below hb12 (Nat.le_refl _)) h2).mono ?_
  rintro e w3 ⟨ww, rfl, HW, hww, hb3⟩
  have hb03 := hb12.trans (hb3.mono hb12.size)
  have hcN' := hcN.below (hb2.trans (hb3.mono hb2.size)) (Nat.le_refl _)
  have hcS' := hcS.below hb3 (Nat.le_refl _)
  have HI : Hid (Dns.isSub N B = false) := by
    cases h : Dns.isSub N B with
    | false => exact hide rfl
    | true => have := ((Dns.any_sub hN hS).1 h).1; omega
  clear hb1 hb2 hb12 hb3 hcN hcS hc0 hc1 hc2
  have hltZ : ¬ ((B.length : Int) ≤ (N.length : Int)) := by omega
  go_wp2_with fail
  refine (wire_named ad1 N.length cap1 N rfl w3 hcN' hNn).mono ?_
  rintro e w4 ⟨nw, rfl, HN, hnw, hb4⟩
  rw [Dns.norm_of_ok hN] at HN
  have hb04 := hb03.trans (hb4.mono hb03.size)
  have hcS4 := hcS'.below hb4 (Nat.le_refl _)
  clear hb03 hb4 hcN' hcS'
  go_wp2_with fail
  refine (wire_named ad2 B.length cap2 B rfl _ (hcS4.below ((Below.refl _ _).alloc (Nat.le_refl _) _) (Nat.le_refl _)) hSn).mono ?_
  rintro e w5 ⟨sw, rfl, HS, hsw, hb5⟩
  rw [Dns.norm_of_ok hS] at HS
  have hc5 : w5.cell? ⟨w4.heap.size, 0, none⟩ = some (.string nw) := by
    rw [hb5.cell (p := ⟨w4.heap.size, 0, none⟩) (by simp)]; simp
  have hs5 : w4.heap.size < w5.heap.size := by have := hb5.size; simp at this; omega
  have hb05 : Below w.heap.size w w5 := (hb04.alloc hb04.size _).trans (hb5.mono (by have := hb04.size; simp; omega))
  clear hb04 hb5 hcS4
  go_wp2_with fail
  refine (repl_no N B hN hS HI nw sw ww HN HS hNn hSn hww _).mono ?_
  rintro e w6 ⟨rfl, hb6⟩
  have hb06 : Below w.heap.size w w6 := (hb05.alloc hb05.size _).trans (hb6.mono (by have := hb05.size; simp; omega))
  clear hb05 hb6 hc5
  go_wp2
  go_ret
  exact ⟨rfl, hb06.alloc hb06.size _⟩
end Go.Proofs.Ybulkctna
