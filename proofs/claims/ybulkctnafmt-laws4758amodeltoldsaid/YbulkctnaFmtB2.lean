/-
  THE LAW 'BUILT': its walk at 'mandatory'.
-/
import Derived.Test.YbulkctnaFmtB1
namespace Go.Proofs.YbulkctnaFmt
open Go.RowKit Go.Extern.Stop Go.Stop Go.Extern
set_option linter.unusedVariables false

/-- The slice's address and its numbers, as they lie in the world. -/
def DCells (w : World) (ad : Option Addr) (D : List Int) : Prop := ∀ i, i < D.length → ∃ b off, ad = some ⟨b, off, none⟩ ∧ b < w.heap.size ∧ w.cell? ⟨b, off + i, none⟩ = some (.int .u16 (D.getD i 0)) ∧ 0 ≤ D.getD i 0 ∧ D.getD i 0 ≤ 65535

theorem two_ints (n m : Int) : ∀ u, u ∈ [Value.int .u8 n, Value.int .u8 m] → u.oneCell' = true := by
  intro u hu
  simp at hu
  rcases hu with rfl | rfl <;> rfl
theorem two_new (w : World) (x y : Value) (e : TypeId) : ∀ j u, [x, y][j]? = some u → (w.alloc (.cells #[x, y] e)).cell? ((⟨w.heap.size, 0, none⟩ : Addr).add j) = some u := by
  intro j u hu
  match j, hu with
  | 0, hu => simp at hu; subst hu; simp [Addr.add]
  | 1, hu => simp at hu; subst hu; simp [Addr.add]
  | j + 2, hu => simp at hu
theorem bvals_two (k d : Nat) (h : k + (d % 1024 + 1) ≤ 65535) : bvals (Svc.two (k + (d % 1024 + 1))) = [.int .u8 (((k : Int) + ((d : Int) % 1024 + 1)) / 256), .int .u8 (((k : Int) + ((d : Int) % 1024 + 1)) % 256)] := by
  have e1 : (UInt8.ofNat ((k + (d % 1024 + 1)) / 256)).toNat = (k + (d % 1024 + 1)) / 256 := by simp [UInt8.toNat_ofNat']; omega
  have e2 : (UInt8.ofNat (k + (d % 1024 + 1))).toNat = (k + (d % 1024 + 1)) % 256 := by rw [UInt8.toNat_ofNat']
  have e3 : (((k + (d % 1024 + 1)) / 256 : Nat) : Int) = ((k : Int) + ((d : Int) % 1024 + 1)) / 256 := by omega
  have e4 : (((k + (d % 1024 + 1)) % 256 : Nat) : Int) = ((k : Int) + ((d : Int) % 1024 + 1)) % 256 := by omega
  simp only [bvals, Svc.two, List.map_cons, List.map_nil, e1, e2, e3, e4]

set_option maxRecDepth 20000 in
set_option maxHeartbeats 800000 in
theorem built_1 (F : Interp) (a0 a3 : Int) (h00 : 0 ≤ a0) (h01 : a0 ≤ 255) (hs : a0 % 4 = 1) (ad1 ad2 : Option Addr) (n1 c1 c2 : Nat) (D : List Int) (hn1 : n1 ≤ 300) (hn2 : D.length ≤ 300) (w : World) (hE : Env F w) (hD : DCells w ad2 D) :
    Calls Ybaf.prog 4 #[.int .u8 a0, .slice ad1 n1 c1, .slice ad2 D.length c2, .int .u8 a3] w fun e w' => e = .returned (.bool true) ∧ Below w.heap.size w w' := by
  obtain ⟨i0, hi, hz0, hz1, hz2⟩ := info_parts Ybaf.info5
  have HE := hide hE
  have h1Z : ¬ (300 : Int) < (n1 : Int) := by omega
  have h2Z : ¬ (300 : Int) < (D.length : Int) := by omega
  have s0 : (a0 % 4 == 0) = false := by rw [hs]; rfl
  have s1 : (a0 % 4 == 1) = true := by rw [hs]; rfl
  clear hE hs
  go_enter Ybaf.func4, Ybaf.ntmps4
  go_wp2
  go_loopw [14, 15, 89] (fun v t i wr => ∃ (j k : Nat) (ks : List Nat), j ≤ D.length ∧ ks.length ≤ j ∧ i = .int .i64 (j : Int) ∧ t = .int .u32 (k : Int) ∧ k ≤ 65535 ∧ Hid (Svc.lastOf 0 ks = k) ∧ Hid (Svc.Up 0 ks) ∧ wr.ownsRow w.heap.size 5 1 v (Svc.keysOf ks).length (bvals (Svc.keysOf ks)) ∧ Below w.heap.size w wr) (fun _ _ i _ => D.length - (intOf i).toNat)
  case atStart => exact ⟨0, 0, [], Nat.zero_le _, Nat.le_refl _, rfl, rfl, by omega, hide rfl, hide trivial, World.ownsRow_nil _ _ _ _, Below.refl _ _⟩
  case round =>
    obtain ⟨j, k, ks, hj, hkj, rfl, rfl, hkb, HLast, HUp, hown, hbl⟩ := hrel
    have hkl := Svc.keysOf_length ks
    have hbs := hbl.size
    by_cases hlt : j < D.length
    · obtain ⟨b, off, rfl, hb1, hcl, hd0, hd1⟩ := hD j hlt
      rw [← hbl.cell (p := ⟨b, off + j, none⟩) hb1] at hcl
      obtain ⟨d, HD⟩ : ∃ d : Nat, Hid (D.getD j 0 = (d : Int)) := ⟨(D.getD j 0).toNat, hide (by omega)⟩
      rw [unhide HD] at hcl hd1
      have hli : (j : Int) < (D.length : Int) := by omega
      clear hd0
      by_cases hbig : 65535 < k + (d % 1024 + 1)
      · have hbZ : (65535 : Int) < (k : Int) + ((d : Int) % 1024 + 1) := by omega
        obtain ⟨adF, capF, hv, hcapF, hcF⟩ := bcells_of_own hown
        have HE2 := hide ((unhide HE).below hbl)
        have HM := hide (Svc.mand_keys ks (unhide HUp))
        have hkx : (Svc.keysOf ks).length ≤ 1000000 := by omega
        rw [hv]
        clear hown hv hkl
        go_wp2_with fail
        refine (check_any F 0 (by omega) (by omega) adF _ capF (Svc.keysOf ks) rfl hkx hcapF _ (unhide HE2) hcF).mono ?_
        rintro e w2 ⟨hres, hb2⟩
        rw [unhide HM] at hres
        have hb3 := hbl.trans (hb2.mono hbs)
        by_cases hpos : 0 < (Svc.keysOf ks).length
        · rw [decide_eq_true hpos] at hres
          rcases hres with ⟨_, rfl⟩ | ⟨hf, _⟩
          · have hpZ : (0 : Int) < ((Svc.keysOf ks).length : Int) := by omega
            go_wp2
            go_ret
            exact ⟨rfl, hb3⟩
          · cases hf
        · rw [decide_eq_false hpos] at hres
          rcases hres with ⟨hf, _⟩ | ⟨_, p, rfl⟩
          · cases hf
          · have hpZ : ¬ (0 : Int) < ((Svc.keysOf ks).length : Int) := by omega
            go_wp2
            go_ret
            exact ⟨rfl, hb3⟩
      · have hbZ : ¬ (65535 : Int) < (k : Int) + ((d : Int) % 1024 + 1) := by omega
        have HV := hide (bvals_two k d (by omega))
        have HUp2 := hide (Svc.up_snoc ks 0 (k + (d % 1024 + 1)) (unhide HUp) (by rw [unhide HLast]; omega) (by omega))
        have HLast2 := hide (Svc.lastOf_snoc ks 0 (k + (d % 1024 + 1)))
        have HK2 := hide (Svc.keysOf_snoc ks (k + (d % 1024 + 1)))
        have hkl2 : (Svc.keysOf ks).length ≤ 600 := by omega
        clear hkl
        go_wp2_with (at_builtin; refine wpList_append_own _ rfl _ _ 23 rfl w.heap.size 5 i0 (.int .u8 0) 1 1 Ybaf.underlying23 hi hz0 hz1 hz2 rfl (by decide) _ _ _ rfl (hown.alloc _) ⟨wr.heap.size, 0, none⟩ 2 2 [.int .u8 (((k : Int) + ((d : Int) % 1024 + 1)) / 256), .int .u8 (((k : Int) + ((d : Int) % 1024 + 1)) % 256)] rfl rfl (two_new _ _ _ _) (two_ints _ _) (by unfold maxLen; omega) (by omega) (by simp; omega) ?_; intro v' w1 hown1 hgrow1 _)
        have hbl2 := below_app hbl hown hgrow1
        have ho2 : w1.ownsRow w.heap.size 5 1 v' (Svc.keysOf (ks ++ [k + (d % 1024 + 1)])).length (bvals (Svc.keysOf (ks ++ [k + (d % 1024 + 1)]))) := by
          rw [unhide HK2, bvals_append, unhide HV, List.length_append]; exact hown1
        clear hown1 hgrow1 hown hcl
        go_wp2
        go_roundw
        case rel => exact ⟨j + 1, k + (d % 1024 + 1), ks ++ [k + (d % 1024 + 1)], by omega, by simp; omega, by go_num, by go_num, by omega, HLast2, HUp2, ho2, hbl2⟩
        case measure => simp [intOf]; omega
    · obtain ⟨adF, capF, hv, hcapF, hcF⟩ := bcells_of_own hown
      have HE2 := hide ((unhide HE).below hbl)
      have HM := hide (Svc.mand_keys ks (unhide HUp))
      have hkx : (Svc.keysOf ks).length ≤ 1000000 := by omega
      rw [hv]
      clear hown hv hkl
      go_wp2_with fail
      refine (check_any F 0 (by omega) (by omega) adF _ capF (Svc.keysOf ks) rfl hkx hcapF _ (unhide HE2) hcF).mono ?_
      rintro e w2 ⟨hres, hb2⟩
      rw [unhide HM] at hres
      have hb3 := hbl.trans (hb2.mono hbs)
      by_cases hpos : 0 < (Svc.keysOf ks).length
      · rw [decide_eq_true hpos] at hres
        rcases hres with ⟨_, rfl⟩ | ⟨hf, _⟩
        · have hpZ : (0 : Int) < ((Svc.keysOf ks).length : Int) := by omega
          go_wp2
          go_ret
          exact ⟨rfl, hb3⟩
        · cases hf
      · rw [decide_eq_false hpos] at hres
        rcases hres with ⟨hf, _⟩ | ⟨_, p, rfl⟩
        · cases hf
        · have hpZ : ¬ (0 : Int) < ((Svc.keysOf ks).length : Int) := by omega
          go_wp2
          go_ret
          exact ⟨rfl, hb3⟩
end Go.Proofs.YbulkctnaFmt
