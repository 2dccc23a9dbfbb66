/-
  THE WALKS, 5: ReplaceSuffix.
-/
import Derived.Test.YbulkctnaW4
namespace Go.Proofs.Ybulkctna
open Go.RowKit
set_option linter.unusedVariables false

/-- What ReplaceSuffix returns. -/
abbrev nmOk (r : Dns.Bytes × Bool) : Value := .tuple #[nm (S r.1), .bool r.2]

/-- Four boxes laid, and what a callee makes above them: the boxes stand. -/
theorem boxesR {w w1 : World} {s t v : ByteArray} (hb : Below ((((w.alloc (.cells #[.string s] 28)).alloc (.cells #[.string t] 28)).alloc (.cells #[.string v] 28)).alloc (.cells #[.string ⟨#[]⟩] 28)).heap.size ((((w.alloc (.cells #[.string s] 28)).alloc (.cells #[.string t] 28)).alloc (.cells #[.string v] 28)).alloc (.cells #[.string ⟨#[]⟩] 28)) w1) :
    w1.cell? ⟨w.heap.size, 0, none⟩ = some (.string s) ∧ w1.cell? ⟨w.heap.size + 1, 0, none⟩ = some (.string t) ∧ w1.cell? ⟨w.heap.size + 1 + 1, 0, none⟩ = some (.string v) ∧
    w1.cell? ⟨w.heap.size + 1 + 1 + 1, 0, none⟩ = some (.string ⟨#[]⟩) ∧ w1.frozen? ⟨w.heap.size + 1 + 1 + 1, 0, none⟩ = false ∧ w.heap.size + 4 ≤ w1.heap.size ∧ Below w.heap.size w w1 := by
  refine ⟨?_, ?_, ?_, ?_, ?_, ?_, ?_⟩
  · rw [hb.cell (p := ⟨w.heap.size, 0, none⟩) (by simp; omega)]
    rw [World.cell?_alloc_past _ _ _ (by simp; omega), World.cell?_alloc_past _ _ _ (by simp; omega)]; simp
  · rw [hb.cell (p := ⟨w.heap.size + 1, 0, none⟩) (by simp)]
    rw [World.cell?_alloc_past _ _ _ (by simp), World.cell?_alloc_past _ _ _ (by simp)]; simp
  · rw [hb.cell (p := ⟨w.heap.size + 1 + 1, 0, none⟩) (by simp)]
    rw [World.cell?_alloc_past _ _ _ (by simp), World.cell?_alloc_at _ _ _ _ (by simp)]; simp
  · rw [hb.cell (p := ⟨w.heap.size + 1 + 1 + 1, 0, none⟩) (by simp)]
    rw [World.cell?_alloc_at _ _ _ _ (by simp)]; simp
  · rw [hb.frozen (p := ⟨w.heap.size + 1 + 1 + 1, 0, none⟩) (by simp)]
    rw [World.frozen?_alloc_at _ _ _ _ (by simp)]
  · have := hb.size; simp at this; omega
  · exact ((((Below.refl _ _).alloc (Nat.le_refl _) _).alloc (by simp) _).alloc (by simp; omega) _).alloc (by simp; omega) _ |>.trans (hb.mono (by simp; omega))

theorem take_ext (s : ByteArray) (l : Dns.Bytes) (hs : s = S l) (n : Nat) (v : ByteArray) : S (l.take n ++ v.data.toList) = s.extract 0 n ++ v := by
  subst hs
  apply ByteArray.ext
  rw [ByteArray.data_append, ByteArray.data_extract]
  apply Array.ext'
  simp

set_option maxRecDepth 20000 in
set_option maxHeartbeats 400000 in
theorem repl_any (A B : List Dns.Bytes) (hA : Dns.Ok A) (hB : Dns.Ok B) (s t v : ByteArray) (hs : Hid (s = S (Dns.wireN A))) (ht : Hid (t = S (Dns.wireN B)))
    (hmA : A.length ≤ 1000000) (hmB : B.length ≤ 1000000) (hv : v.size ≤ 64000000) (w : World) :
    Calls Yba.prog 8 #[nm s, nm t, nm v] w fun e w' => e = .returned (nmOk (Dns.repl (Dns.isSub A B) (Dns.wireN A) (Dns.wireN B) v.data.toList)) ∧ Below w.heap.size w w' := by
  have hss : s.size ≤ 64000000 := wire_max hA hmA (unhide hs)
  have hts : t.size ≤ 64000000 := wire_max hB hmB (unhide ht)
  cases hb : Dns.isSub A B with
  | false =>
    have HB := hide hb
    have HR : Hid (Dns.repl false (Dns.wireN A) (Dns.wireN B) v.data.toList = ([], false)) := rfl
    clear hb
    go_enter Yba.func8, Yba.ntmps8
    go_wp2_with fail
    refine (isSub_any A B hA hB s t hs ht hmA hmB _).mono ?_
    rintro e w1 ⟨rfl, hb1⟩
    obtain ⟨c0, c1, c2, c3, f3, hsz, hbl⟩ := boxesR hb1
    rw [unhide HB]
    clear hb1
    go_wp2
    refine bodyPost_ret (v := .tuple #[nm (S []), .bool false]) (by simp [results, Yba.results8, go_sem, c3]) rfl ⟨?_, hbl.setCell (by simp; omega) _⟩
    rw [unhide HR]
  | true =>
    have hle : t.size ≤ s.size := by
      have := Dns.isSub_len hb
      rw [unhide hs, unhide ht, S_size, S_size]
      exact this
    by_cases hlong : 255 < s.size - t.size + v.size + 1
    · have HR : Hid (Dns.repl true (Dns.wireN A) (Dns.wireN B) v.data.toList = ([], false)) := by
        have e1 : (Dns.wireN A).length = s.size := by rw [unhide hs, S_size]
        have e2 : (Dns.wireN B).length = t.size := by rw [unhide ht, S_size]
        have e3 : v.data.toList.length = v.size := by simp
        show _ = _
        simp only [Dns.repl, if_true, e1, e2, e3, hlong]
      have HB := hide hb
      clear hb
      go_enter Yba.func8, Yba.ntmps8
      go_wp2_with fail
      refine (isSub_any A B hA hB s t hs ht hmA hmB _).mono ?_
      rintro e w1 ⟨rfl, hb1⟩
      obtain ⟨c0, c1, c2, c3, f3, hsz, hbl⟩ := boxesR hb1
      rw [unhide HB]
      clear hb1
      go_wp2
      refine bodyPost_ret (v := .tuple #[nm (S []), .bool false]) (by simp [results, Yba.results8, go_sem, c3]) rfl ⟨?_, hbl.setCell (by simp; omega) _⟩
      rw [unhide HR]
    · have HR : Hid (nmOk (Dns.repl true (Dns.wireN A) (Dns.wireN B) v.data.toList) = .tuple #[nm (s.extract 0 (s.size - t.size) ++ v), .bool true]) := by
        have e1 : (Dns.wireN A).length = s.size := by rw [unhide hs, S_size]
        have e2 : (Dns.wireN B).length = t.size := by rw [unhide ht, S_size]
        have e3 : v.data.toList.length = v.size := by simp
        show _ = _
        simp only [Dns.repl, if_true, e1, e2, e3, hlong, if_false]
        rw [← take_ext s (Dns.wireN A) (unhide hs)]
      have HB := hide hb
      clear hb
      go_enter Yba.func8, Yba.ntmps8
      go_wp2_with fail
      refine (isSub_any A B hA hB s t hs ht hmA hmB _).mono ?_
      rintro e w1 ⟨rfl, hb1⟩
      obtain ⟨c0, c1, c2, c3, f3, hsz, hbl⟩ := boxesR hb1
      rw [unhide HB]
      clear hb1
      go_wp2
      refine bodyPost_ret (v := .tuple #[nm (s.extract 0 (s.size - t.size) ++ v), .bool true]) (by simp [results, Yba.results8, go_sem, c3]) rfl ⟨?_, hbl.setCell (by simp; omega) _⟩
      rw [unhide HR]
end Go.Proofs.Ybulkctna
