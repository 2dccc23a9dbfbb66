/-
  THE WALKS, 4: IsSubdomain.
-/
import Derived.Test.YbulkctnaW3
import Derived.Deep.RegionWith
import Derived.Deep.DeepCutAuto
namespace Go.Proofs.Ybulkctna
open Go.RowKit
set_option linter.unusedVariables false

theorem two_in (a b : Nat) (ha : a ≤ 1000000) (hb : b ≤ 1000000) : Value.int .i64 (IntKind.i64.wrap ((a : Int) - (b : Int))) = .int .i64 ((a : Int) - (b : Int)) := by
  rw [IntWalk.i64_in _ (by omega)]

/-- Two boxes laid, two blocks more, a draw: the boxes stand. -/
theorem boxes4 (w : World) (s t : ByteArray) (o1 o2 : Obj) :
    w.heap.size + 2 ≤ ((((w.alloc (.cells #[.string s] 28)).alloc (.cells #[.string t] 28)).alloc o1).alloc o2).drew.heap.size ∧
    ((((w.alloc (.cells #[.string s] 28)).alloc (.cells #[.string t] 28)).alloc o1).alloc o2).drew.cell? ⟨w.heap.size, 0, none⟩ = some (.string s) ∧
    ((((w.alloc (.cells #[.string s] 28)).alloc (.cells #[.string t] 28)).alloc o1).alloc o2).drew.frozen? ⟨w.heap.size, 0, none⟩ = false ∧
    ((((w.alloc (.cells #[.string s] 28)).alloc (.cells #[.string t] 28)).alloc o1).alloc o2).drew.cell? ⟨w.heap.size + 1, 0, none⟩ = some (.string t) ∧
    Below w.heap.size w ((((w.alloc (.cells #[.string s] 28)).alloc (.cells #[.string t] 28)).alloc o1).alloc o2).drew := by
  have hb : Below (w.heap.size + 2) ((w.alloc (.cells #[.string s] 28)).alloc (.cells #[.string t] 28)) ((((w.alloc (.cells #[.string s] 28)).alloc (.cells #[.string t] 28)).alloc o1).alloc o2).drew :=
    (((Below.refl _ _).alloc (by simp) _).alloc (by simp) _).drew
  refine ⟨by simp, ?_, ?_, ?_, (((((Below.refl _ _).alloc (Nat.le_refl _) _).alloc (by simp) _).alloc (by simp; omega) _).alloc (by simp; omega) _).drew⟩
  · rw [hb.cell (p := ⟨w.heap.size, 0, none⟩) (by simp)]; simp
  · rw [hb.frozen (p := ⟨w.heap.size, 0, none⟩) (by simp)]; simp
  · rw [hb.cell (p := ⟨w.heap.size + 1, 0, none⟩) (by simp)]; simp

theorem isSub_done {A B : List Dns.Bytes} {u t : ByteArray} {k : Nat} (hk : k = A.length - B.length) (hu : u = S (Dns.wireN (A.drop k))) (ht : t = S (Dns.wireN B)) :
    Dns.eqf u.data.toList t.data.toList = Dns.isSub A B := by
  subst hk hu ht
  simp [Dns.isSub]

theorem wire_max {A : List Dns.Bytes} (hA : Dns.Ok A) (hm : A.length ≤ 1000000) {s : ByteArray} (hs : s = S (Dns.wireN A)) : s.size ≤ 64000000 := by
  have := Dns.wireN_length_le hA
  rw [hs, S_size]
  omega

set_option maxHeartbeats 400000 in
theorem isSub_any (A B : List Dns.Bytes) (hA : Dns.Ok A) (hB : Dns.Ok B) (s t : ByteArray) (hs : Hid (s = S (Dns.wireN A))) (ht : Hid (t = S (Dns.wireN B)))
    (hmA : A.length ≤ 1000000) (hmB : B.length ≤ 1000000) (w : World) :
    Calls Yba.prog 10 #[nm s, nm t] w fun e w' => e = .returned (.bool (Dns.isSub A B)) ∧ Below w.heap.size w w' := by
  go_enter Yba.func10, Yba.ntmps10
  go_wp2
  go_cut [5] (fun c wc => c = .int .i64 ((A.length : Int) - (B.length : Int)) ∧ w.heap.size + 2 ≤ wc.heap.size ∧ wc.cell? ⟨w.heap.size, 0, none⟩ = some (.string s) ∧ wc.frozen? ⟨w.heap.size, 0, none⟩ = false ∧ wc.cell? ⟨w.heap.size + 1, 0, none⟩ = some (.string t) ∧ Below w.heap.size w wc)
  case first =>
    go_region_with (first | (go_at_call_of 12 (Value.string s); refine (labels_any A hA s hs hmA _).mono ?_; rintro e w1 ⟨rfl, rfl⟩) | (go_at_call_of 12 (Value.string t); refine (labels_any B hB t ht hmB _).mono ?_; rintro e w2 ⟨rfl, rfl⟩))
    all_goals (go_wp2_with fail; go_meet; exact ⟨two_in _ _ hmA hmB, boxes4 _ _ _ _ _⟩)
  case rest =>
    obtain ⟨rfl, hsz, hcs, hfs, hct, hbl⟩ := hcut
    go_wp2
    go_loopw [5] (fun c wr => ∃ (k : Nat) (u : ByteArray), k ≤ A.length - B.length ∧ c = .int .i64 ((A.length : Int) - (B.length : Int) - k) ∧ Hid (u = S (Dns.wireN (A.drop k))) ∧ w.heap.size + 2 ≤ wr.heap.size ∧ wr.cell? ⟨w.heap.size, 0, none⟩ = some (.string u) ∧ wr.frozen? ⟨w.heap.size, 0, none⟩ = false ∧ wr.cell? ⟨w.heap.size + 1, 0, none⟩ = some (.string t) ∧ Below w.heap.size w wr) (fun c _ => (intOf c).toNat)
    case atStart => exact ⟨0, s, Nat.zero_le _, by go_num, hs, hsz, hcs, hfs, hct, hbl⟩
    case round =>
      clear hsz hcs hfs hct hbl
      obtain ⟨k, u, hk, rfl, HU, hsz, hcs, hfs, hct, hbl⟩ := hrel
      by_cases hlt : k < A.length - B.length
      · have hpos : (0 : Int) < (A.length : Int) - (B.length : Int) - k := by omega
        have hkA : k < A.length := by omega
        have hd : A.drop k = A[k] :: A.drop (k + 1) := List.drop_eq_getElem_cons hkA
        have HU2 : Hid (u = S (Dns.wireN (A[k] :: A.drop (k + 1)))) := by rw [← hd]; exact HU
        have hl := (hA _ (List.getElem_mem hkA)).2
        clear hd HU
        go_wp2_with (go_at_call 13; refine (parent_any (A[k]) (A.drop (k + 1)) hl u HU2 _).mono ?_; rintro e w1 ⟨rfl, hb1⟩; have h1 := hb1.cell (p := ⟨w.heap.size, 0, none⟩) (by simp; omega); have h2 := hb1.frozen (p := ⟨w.heap.size, 0, none⟩) (by simp; omega); have h3 := hb1.cell (p := ⟨w.heap.size + 1, 0, none⟩) (by simp; omega); rw [hcs] at h1; rw [hfs] at h2; rw [hct] at h3; have h4 := hb1.size)
        go_roundw
        case rel => exact ⟨k + 1, _, by omega, by go_num, hide rfl, by simp; omega, World.cell?_setCell_same _ _ _ h1, by simpa using h2, by rw [World.cell?_setCell_other _ _ _ _ (by simp)]; exact h3, (hbl.trans (hb1.mono (by omega))).setCell (Nat.le_refl _) _⟩
        case measure => simp [intOf]; omega
      · have hpos : ¬ (0 : Int) < (A.length : Int) - (B.length : Int) - k := by omega
        have hke : k = A.length - B.length := by omega
        have HR := hide (isSub_done hke (unhide HU) (unhide ht))
        have hus : u.size ≤ 64000000 := wire_max (Dns.ok_drop hA k) (by simp; omega) (unhide HU)
        have hts : t.size ≤ 64000000 := wire_max hB hmB (unhide ht)
        clear hke
        go_wp2_with (go_at_call 14; refine (equalFold_any u t (by unfold maxLen; omega) (by unfold maxLen; omega) _).mono ?_; rintro e w1 ⟨rfl, hb1⟩)
        go_ret
        exact ⟨by rw [← unhide HR]; rfl, hbl.trans (hb1.mono (by omega))⟩
end Go.Proofs.Ybulkctna
