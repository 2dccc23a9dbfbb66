/-
  THE WALKS, 7: zzs4758bwire.
-/
import Derived.Test.YbulkctnaW6
import Derived.Lib.AppendStr
import Derived.Laws.IdiomStrings
import Derived.Laws.BytesArg
namespace Go.Proofs.Ybulkctna
open Go.RowKit
set_option linter.unusedVariables false

/-- Bytes as values. -/
def bvals (l : Dns.Bytes) : List Value := l.map fun b => .int .u8 b.toNat
theorem bvals_S (l : Dns.Bytes) : Lib.strCells (S l) = bvals l := by simp [Lib.strCells, bvals]
theorem bvals_append (a b : Dns.Bytes) : bvals (a ++ b) = bvals a ++ bvals b := by simp [bvals]
theorem bvals_length (a : Dns.Bytes) : (bvals a).length = a.length := by simp [bvals]

theorem Yba.info5 : (Yba.prog.info? 5).map (fun i => (i.zero, i.size, i.bytes)) = some (some (.int .u8 0), 1, 1) := by kernel_rfl

/-- 'string(b)' of an owned row of bytes. -/
theorem string_of_own {w : World} {base n : Nat} {v : Value} {l : Dns.Bytes} (h : w.ownsRow base 5 1 v n (bvals l)) :
    (convert 34 9 v).run Yba.prog w = .ok (.string (S l)) w := by
  have hn : n = l.length := by have := h.1; rw [bvals_length] at this; omega
  subst hn
  by_cases h0 : 0 < l.length
  · obtain ⟨g, cap, rfl, _, hlt, hc, hcell⟩ := own_lt h h0
    refine run_convert_bytes_back w 34 9 5 ⟨g, 0, none⟩ cap l Yba.underlying34 Yba.underlying5 Yba.underlying9 ?_
    intro j hj
    have := hcell j (.int .u8 (l[j].toNat : Int)) (by simp [bvals, hj])
    rw [WideShapes.add_plain, Nat.zero_add]; exact this
  · have e0 : l = [] := by cases l with | nil => rfl | cons _ _ => simp at h0
    subst e0
    obtain ⟨_, ⟨rfl, _⟩ | ⟨g, cap, cur, rfl, _⟩⟩ := h
    · exact run_convert_bytes_nil w 34 5 Yba.underlying34 Yba.underlying5 0 0 9 Yba.underlying9
    · exact run_convert_bytes_back w 34 9 5 ⟨g, 0, none⟩ cap [] Yba.underlying34 Yba.underlying5 Yba.underlying9 (fun j hj => by simp at hj)

theorem one_int (n : Int) : ∀ u, u ∈ [Value.int .u8 n] → u.oneCell' = true := by
  intro u hu; simp at hu; subst hu; rfl

/-- The wire form of one label more. -/
theorem wire_take_succ (M : List Dns.Bytes) (k : Nat) (h : k < M.length) : Dns.wireN (M.take (k + 1)) = Dns.wireN (M.take k) ++ ([UInt8.ofNat (M[k]).length] ++ M[k]) := by
  rw [List.take_succ_eq_append_getElem h, Dns.wireN_append, Dns.wireN_one]; rfl
theorem wire_vals_succ (M : List Dns.Bytes) (k : Nat) (h : k < M.length) (hl : (M[k]).length ≤ 63) (t : ByteArray) (ht : t = S M[k]) :
    bvals (Dns.wireN (M.take (k + 1))) = bvals (Dns.wireN (M.take k)) ++ [.int .u8 (t.size : Int)] ++ Lib.strCells t := by
  subst ht
  rw [wire_take_succ M k h, bvals_append, bvals_append, bvals_S, List.append_assoc]
  have : ((UInt8.ofNat (M[k]).length).toNat : Int) = ((S M[k]).size : Int) := by
    rw [S_size]
    simp [UInt8.toNat_ofNat']
    omega
  simp [bvals, ← this]
theorem wire_take_len (M : List Dns.Bytes) (hM : Dns.Ok M) (k : Nat) (hk : k ≤ M.length) : (Dns.wireN (M.take k)).length ≤ 64 * k := by
  have := Dns.wireN_length_le (Dns.ok_take hM k)
  rw [List.length_take] at this
  omega

theorem below_two {B : Nat} {W wr w2 w3 : World} {o : Obj} {e n n' : Nat} {v v1 : Value} {xs ys : List Value} (hbl : Below W.heap.size W wr) (hown : wr.ownsRow W.heap.size e 1 v n xs) (hg : (wr.alloc o).grownBy w2 v.ownBlock)
    (hown1 : w2.ownsRow W.heap.size e 1 v1 n' ys) (hg2 : w2.grownBy w3 v1.ownBlock) : Below W.heap.size W w3 := by
  have h1 := below_app hbl hown hg
  exact h1.grown hg2 h1.size (fun k hk => (hown1.lt k hk).1)

set_option maxHeartbeats 800000 in
theorem wire_any (ad : Option Addr) (n cap : Nat) (L : List Dns.Bytes) (hL : n = L.length) (w : World) (hc : Cells w ad L) (hn : L.length ≤ 300) :
    Calls Yba.prog 7 #[.slice ad n cap] w fun e w' => e = .returned (.string (S (Dns.wireN (Dns.norm L)))) ∧ Below w.heap.size w w' := by
  obtain ⟨i0, hi, hz0, hz1, hz2⟩ := info_parts Yba.info5
  subst hL
  go_enter Yba.func7, Yba.ntmps7
  go_wp2_with fail
  refine (norm_any ad L.length cap L rfl w hc hn).mono ?_
  rintro e W ⟨ad', cap', rfl, hcap, hcM, hbW⟩
  have hM := Dns.norm_ok L
  have hMn := Nat.le_trans (Dns.norm_length_le L) hn
  generalize hMe : Dns.norm L = M at *
  have HM := hide hMe
  clear hMe
  clear hc hn
  go_wp2
  go_loopw [3, 9] (fun v i wr => ∃ k : Nat, k ≤ M.length ∧ i = .int .i64 k ∧ wr.ownsRow W.heap.size 5 1 v (Dns.wireN (M.take k)).length (bvals (Dns.wireN (M.take k))) ∧ Below W.heap.size W wr) (fun _ i _ => M.length - (intOf i).toNat)
  case atStart => exact ⟨0, Nat.zero_le _, rfl, World.ownsRow_nil _ _ _ _, Below.refl _ _⟩
  case round =>
    obtain ⟨k, hk, rfl, hown, hbl⟩ := hrel
    by_cases hlt : k < M.length
    · obtain ⟨b, off, rfl, hb1, hcl⟩ := hcM k hlt
      rw [← hbl.cell (p := ⟨b, off + k, none⟩) hb1, getD_get M k hlt] at hcl
      have hli : (k : Int) < (M.length : Int) := by omega
      obtain ⟨t, HT⟩ : ∃ t : ByteArray, Hid (t = S M[k]) := ⟨_, hide rfl⟩
      have hl := hM _ (List.getElem_mem hlt)
      have hts : t.size ≤ 63 := by rw [unhide HT, S_size]; exact hl.2
      rw [← unhide HT] at hcl
      have HV := hide (wire_vals_succ M k hlt hl.2 t (unhide HT))
      have hwl := wire_take_len M hM k hk
      have hbs := hbl.size
      go_wp2_with (first
        | (at_builtin; refine wpList_append_own _ rfl (.tmp 13) (.tmp 17) 34 rfl W.heap.size 5 i0 (.int .u8 0) 1 1 Yba.underlying34 hi hz0 hz1 hz2 rfl (by decide) _ _ _ rfl (hown.alloc _) ⟨wr.heap.size, 0, none⟩ 1 1 [.int .u8 (t.size : Int)] rfl rfl (cell_one_new _ _ _) (one_int _) (by unfold maxLen; omega) (by omega) (by simp; omega) ?_; intro v1 w2 hown1 hgrow1 _; have hbs1 := hgrow1.size; simp at hbs1)
        | (at_builtin; refine Lib.wpList_append_own_string _ rfl (.tmp 19) (.tmp 20) 34 9 rfl W.heap.size 5 i0 Yba.underlying34 Yba.underlying9 hi hz0 hz1 hz2 _ _ _ rfl hown1 t rfl (by unfold maxLen; omega) (by omega) (by omega) ?_; intro v2 w3 hown2 hgrow2 _))
      have hbl' := below_two (B := 0) hbl hown hgrow1 hown1 hgrow2
      have ho2 : w3.ownsRow W.heap.size 5 1 v2 (Dns.wireN (M.take (k + 1))).length (bvals (Dns.wireN (M.take (k + 1)))) := by
        have e1 : (Dns.wireN (M.take (k + 1))).length = (Dns.wireN (M.take k)).length + 1 + t.size := by
          have := congrArg List.length (unhide HV)
          simp only [List.length_append, bvals_length, Lib.strCells_length, List.length_cons, List.length_nil] at this
          omega
        rw [unhide HV, e1]; exact hown2
      clear hown2 hgrow2 hown1 hgrow1 hown hcl
      go_roundw
      case rel => exact ⟨k + 1, by omega, by go_num, ho2, hbl'⟩
      case measure => simp [intOf]; omega
    · have hke : M.take k = M := List.take_of_length_le (by omega)
      rw [hke] at hown
      have hcv := string_of_own hown
      clear hke
      go_wp2
      go_ret
      exact ⟨by rw [unhide HM]; rfl, hbW.trans (hbl.mono hbW.size)⟩
end Go.Proofs.Ybulkctna
