/-
  THE WALKS, 8: zzs4758bflip.
-/
import Derived.Test.YbulkctnaW7
namespace Go.Proofs.Ybulkctna
open Go.RowKit
set_option linter.unusedVariables false

/-- The bytes r lie at the head of block g, and may be written. -/
def Lies (w : World) (g : Nat) (r : Dns.Bytes) : Prop := ∀ j (hj : j < r.length), w.cell? ⟨g, j, none⟩ = some (.int .u8 ((r[j]).toNat : Int)) ∧ w.frozen? ⟨g, j, none⟩ = false

theorem lies_new (w : World) (t : ByteArray) (cap : Nat) : Lies (w.alloc (.cells (bytesRow t cap) 5 ((bytesRow t cap).size, (bytesRow t cap).size + 1))) w.heap.size t.data.toList := by
  intro j hj
  have hj' : j < t.data.size := by simpa using hj
  refine ⟨?_, ?_⟩
  · rw [World.cell?_alloc_mark, bytesRow_at t cap j hj']; simp
  · rw [World.frozen?_alloc_mark]
    have : j < (bytesRow t cap).size := by
      simp only [bytesRow, Array.size_append, Array.size_map]
      omega
    simp; omega
theorem Lies.drew {w : World} {g : Nat} {r : Dns.Bytes} (h : Lies w g r) : Lies w.drew g r := fun j hj => by simpa using h j hj
theorem Lies.set {w : World} {g : Nat} {r : Dns.Bytes} (h : Lies w g r) {i : Nat} (hi : i < r.length) {n : Int} {c : UInt8} (hn : n = (c.toNat : Int)) : Lies (w.setCell ⟨g, i, none⟩ (.int .u8 n)) g (r.set i c) := by
  subst hn
  intro j hj
  rw [List.length_set] at hj
  refine ⟨?_, by simpa using (h j hj).2⟩
  by_cases e : i = j
  · subst e
    rw [World.cell?_setCell_same _ _ _ (h i hi).1]; simp
  · rw [World.cell?_setCell_other _ _ _ _ (fun h => e (Addr.mk.inj h).2.1), (h j hj).1, List.getElem_set_ne e]
theorem low_set {r l : Dns.Bytes} (h : r.map Dns.low = l.map Dns.low) {i : Nat} (hi : i < r.length) {c : UInt8} (hc : Dns.low c = Dns.low r[i]) : (r.set i c).map Dns.low = l.map Dns.low := by
  rw [← h, List.map_set, hc]
  apply List.ext_getElem
  · simp
  · intro j h1 h2
    by_cases e : i = j
    · subst e; simp
    · rw [List.getElem_set_ne e]

theorem up_low (c : UInt8) (h1 : 65 ≤ (c.toNat : Int)) (h2 : (c.toNat : Int) ≤ 90) : (c.toNat : Int) + 32 = ((c + 32).toNat : Int) ∧ Dns.low (c + 32) = Dns.low c := by
  have e : Dns.flipB c = c + 32 := by unfold Dns.flipB; rw [if_pos (by omega)]
  refine ⟨?_, by rw [← e]; exact Dns.low_flipB c⟩
  rw [UInt8.toNat_add]; simp; omega
theorem low_up (c : UInt8) (h1 : 97 ≤ (c.toNat : Int)) (h2 : (c.toNat : Int) ≤ 122) : (c.toNat : Int) - 32 = ((c - 32).toNat : Int) ∧ Dns.low (c - 32) = Dns.low c := by
  have e : Dns.flipB c = c - 32 := by unfold Dns.flipB; rw [if_neg (by omega), if_pos (by omega)]
  refine ⟨?_, by rw [← e]; exact Dns.low_flipB c⟩
  rw [UInt8.toNat_sub_of_le _ _ (by rw [UInt8.le_iff_toNat_le]; simp; omega)]; simp; omega

/-- What a store of one turned letter leaves. -/
def Up (wr : World) (g : Nat) (r : Dns.Bytes) (t : ByteArray) (j : Nat) (n : Int) : Prop := ∃ r' : Dns.Bytes, Hid (r'.length = t.size) ∧ Hid (r'.map Dns.low = t.data.toList.map Dns.low) ∧ Lies (wr.setCell ⟨g, j, none⟩ (.int .u8 n)) g r'
theorem up_of {wr : World} {g : Nat} {r : Dns.Bytes} {t : ByteArray} {j : Nat} {n : Int} {c d : UInt8} (HL : Hid (r.length = t.size)) (HR : Hid (r.map Dns.low = t.data.toList.map Dns.low)) (hl : Lies wr g r) (hj : j < r.length) (h : n = (d.toNat : Int) ∧ Dns.low d = Dns.low c) (HC : Hid (c = r[j])) : Up wr g r t j n :=
  ⟨r.set j d, hide (by rw [List.length_set]; exact unhide HL), hide (low_set (unhide HR) hj (by rw [h.2, unhide HC])), hl.set hj h.1⟩

set_option maxHeartbeats 800000 in
theorem flip_any (t : ByteArray) (mask k : Int) (hk0 : 0 ≤ k) (hk1 : k ≤ 10000) (hm0 : 0 ≤ mask) (hm1 : mask ≤ 18446744073709551615) (ht : t.size ≤ 63) (w : World) :
    Calls Yba.prog 6 #[.string t, .int .u64 mask, .int .i64 k] w fun e w' => ∃ r : Dns.Bytes, e = .returned (.string (S r)) ∧ r.map Dns.low = t.data.toList.map Dns.low ∧ Below w.heap.size w w' := by
  have hcv := run_bytes_of_string (P := Yba.prog) w 9 34 5 t Yba.underlying9 Yba.underlying34 Yba.underlying5
  generalize grownCap w t.size 0 5 = cap at hcv
  go_enter Yba.func6, Yba.ntmps6
  go_wp2
  clear hcv
  go_loopw [8] (fun i wr => ∃ (j : Nat) (r : Dns.Bytes), j ≤ t.size ∧ i = .int .i64 j ∧ Hid (r.length = t.size) ∧ Hid (r.map Dns.low = t.data.toList.map Dns.low) ∧ Lies wr w.heap.size r ∧ Below w.heap.size w wr) (fun i _ => t.size - (intOf i).toNat)
  case atStart => exact ⟨0, t.data.toList, Nat.zero_le _, rfl, hide (by simp), hide rfl, (lies_new w t cap).drew, ((Below.refl _ _).alloc (Nat.le_refl _) _).drew⟩
  case round =>
    obtain ⟨j, r, hj, rfl, HL, HR, hlies, hbl⟩ := hrel
    by_cases hlt : j < t.size
    · have hjr : j < r.length := by rw [unhide HL]; exact hlt
      have hcf := hlies j hjr
      obtain ⟨c, HC⟩ : ∃ c : UInt8, Hid (c = r[j]) := ⟨_, hide rfl⟩
      rw [← unhide HC] at hcf
      obtain ⟨hcell, hfrz⟩ := hcf
      have hcb := c.toNat_lt
      have hji : (j : Int) < (t.size : Int) := by omega
      have hup : (65 : Int) ≤ (c.toNat : Int) → (c.toNat : Int) ≤ 90 → Up wr w.heap.size r t j ((c.toNat : Int) + 32) := fun h1 h2 => up_of HL HR hlies hjr (up_low c h1 h2) HC
      have hdn : (97 : Int) ≤ (c.toNat : Int) → (c.toNat : Int) ≤ 122 → Up wr w.heap.size r t j ((c.toNat : Int) - 32) := fun h1 h2 => up_of HL HR hlies hjr (low_up c h1 h2) HC
      have HUP := hide hup
      have HDN := hide hdn
      clear hup hdn
      go_wp2
      all_goals go_roundw
      all_goals first
        | (case measure => simp [intOf]; omega)
        | (case rel => exact ⟨j + 1, r, by omega, by go_num, HL, HR, hlies, hbl⟩)
        | (case rel => obtain ⟨r', a1, a2, a3⟩ := unhide HUP (by assumption) (by assumption); exact ⟨j + 1, r', by omega, by go_num, a1, a2, a3, hbl.setCell (Nat.le_refl _) _⟩)
        | (case rel => obtain ⟨r', a1, a2, a3⟩ := unhide HDN (by assumption) (by assumption); exact ⟨j + 1, r', by omega, by go_num, a1, a2, a3, hbl.setCell (Nat.le_refl _) _⟩)
    · have hcv : (convert 34 9 (.slice (some ⟨w.heap.size, 0, none⟩) t.size cap)).run Yba.prog wr = .ok (.string (S r)) wr := by
        have e := unhide HL
        rw [← e]
        refine run_convert_bytes_back wr 34 9 5 ⟨w.heap.size, 0, none⟩ cap r Yba.underlying34 Yba.underlying5 Yba.underlying9 ?_
        intro i hi
        rw [WideShapes.add_plain, Nat.zero_add]
        exact (hlies i hi).1
      go_wp2
      go_ret
      exact ⟨r, rfl, unhide HR, hbl⟩
end Go.Proofs.Ybulkctna
