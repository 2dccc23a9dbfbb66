/-
  THE CARD 'Rows.LawS4758AModelToldSaid', PROVED.
-/
import Derived.Test.YbulkctnaFmtP0
import Derived.Test.YbulkctnaFmtM4
import Derived.Test.YbulkctnaFmtCards
import Derived.Test.YbulkctnaFmtTie
import Derived.SevenTiedAt
namespace Go.Proofs.YbulkctnaFmt
open Go.ChangeShapes Go.WideShapes Go.ChangeAt Go.WideMaps Go.WideElems Go.RowKit
open Go.Extern.Stop Go.Stop Go.Extern Go.Maps
set_option linter.unusedVariables false

theorem stops_eq_m : Ybaf.pinned.checked.prog.stops = Rows.lawS4758AModelRow.stops := by kernel_rfl
theorem knobs_nil_m : Ybaf.pinned.checked.prog.stopKnobs = [] := by kernel_rfl
theorem quiet_os_m (os : Os) : Stop.quiet Ybaf.pinned.checked.prog os := by
  intro k hk
  rw [knobs_nil_m] at hk
  cases hk

/-- A slice of bytes that came in. -/
theorem open_bytes_m {H : Type} {enc : TypeId × Value → H} {W : World} {a : Option Addr} {len cap : Nat} {d : DataW H} {ps : List MemPlace}
    (h : DataW.Trod enc Ybaf.prog W 0 (fun _ => true) true 23 (.slice a len cap) d ps) : ∃ L : Svc.Bytes, L.length = len ∧ len ≤ cap ∧ (a = none → len = 0 ∧ cap = 0) ∧ BCells W a L := by
  obtain ⟨fuel, hf⟩ := h
  rcases open_ints Ybaf.underlying23 Ybaf.underlying5 (by kernel_rfl) hf with ⟨hcs, _⟩ | ⟨x, l, c, zs, hcs, _, hl, hm, hz, _, hcell, hwz⟩
  · simp [Value.cells] at hcs
    obtain ⟨rfl, rfl, rfl⟩ := hcs
    exact ⟨[], rfl, Nat.le_refl _, fun _ => ⟨rfl, rfl⟩, fun i hi => by simp at hi⟩
  · simp [Value.cells] at hcs
    obtain ⟨rfl, rfl, rfl⟩ := hcs
    simp only [if_true] at hz
    have hlen : ((zs.take len).map fun z => UInt8.ofNat z.toNat).length = len := by simp; omega
    refine ⟨(zs.take len).map fun z => UInt8.ofNat z.toNat, hlen, hl, (fun h => by cases h), fun i hi => ?_⟩
    rw [hlen] at hi
    obtain ⟨b, off, spot⟩ := x
    have hspot : spot = none := by simpa [Addr.add] using World.cell?_spot (hcell 0 (by omega))
    subst hspot
    have hci := hcell i (by omega)
    rw [add_plain] at hci
    refine ⟨b, off, rfl, lt_of_cell hci, ?_⟩
    rw [hci]
    have his : i < zs.length := by omega
    have hw := hwz (zs.getD i 0) (by simp [List.getD, List.getElem?_eq_getElem his])
    have hbd : 0 ≤ zs.getD i 0 ∧ zs.getD i 0 ≤ 255 := by
      simp only [Lit.wf, IntKind.min, IntKind.max, IntKind.signed, IntKind.bits, Bool.and_eq_true] at hw
      simpa using hw
    have e : ((zs.take len).map fun z => UInt8.ofNat z.toNat).getD i 0 = UInt8.ofNat (zs.getD i 0).toNat := by
      simp [List.getD, hi, List.getElem?_eq_getElem his]
    rw [e]
    have e2 : ((UInt8.ofNat (zs.getD i 0).toNat).toNat : Int) = zs.getD i 0 := by
      rw [UInt8.toNat_ofNat']
      omega
    rw [e2]

/-- The start that is shown to be there meets the row's conditions. -/
theorem model_witness (os : Os) {H : Type} (enc : TypeId × Value → H) :
    (OpenSpec.ofChange Rows.lawS4758AModelSpec).preRow enc Ybaf.prog Ybaf.f3 Rows.lawS4758AModelRow.domain false Rows.lawS4758AModelRow.laid ((World.doorLaid Ybaf.prog 74 os).forCall (fun _ _ => 0) ⟨#[], #[.int .u8 0, .int .u16 0, .slice none 0 0], []⟩).memory #[.int .u8 0, .int .u16 0, .slice none 0 0] := by
  have hw : (DataW.whole enc Ybaf.prog ((World.doorLaid Ybaf.prog 74 os).forCall (fun _ _ => 0) ⟨#[], #[.int .u8 0, .int .u16 0, .slice none 0 0], []⟩).memory Ybaf.f3.params.toList (OpenSpec.ofChange Rows.lawS4758AModelSpec).vars false #[Value.int .u8 0, .int .u16 0, .slice none 0 0].toList 8).map (fun x => (x.1, x.2.1)) =
      some ([.lit (.int .u8 0), .lit (.int .u16 0), .nil], [Rows.laid_example_com_rootward_rootward_dns_svcKeyNames]) := by kernel_rfl
  obtain ⟨⟨x1, x2, x3⟩, hx, hx1⟩ := Option.map_eq_some_iff.1 hw
  simp only [Prod.mk.injEq] at hx1
  obtain ⟨rfl, rfl⟩ := hx1
  exact OpenSpec.preRow_of_cond 8 hx (by kernel_rfl) (fun k hk => by cases hk) (by kernel_rfl) (door_met os _)

set_option maxRecDepth 100000 in
theorem model_lifted (os : Os) (started : os.Started) (H : Type) (enc : TypeId × Value → H) :
    ReturnsInTold none {} Ybaf.checked os 3 .any Input.okWide ((OpenSpec.ofChange Rows.lawS4758AModelSpec).preRow enc Ybaf.prog Ybaf.f3 Rows.lawS4758AModelRow.domain false Rows.lawS4758AModelRow.laid)
      (fun F => ((OpenSpec.ofChange Rows.lawS4758AModelSpec).at F).post enc Ybaf.prog Ybaf.f3 false true false false) (aloneAtReturn Ybaf.prog) nothingAlways := by
  refine returnsInTold_of_row (C := Ybaf.checked) (s := OpenSpec.ofChange Rows.lawS4758AModelSpec) (by kernel_rfl) own started (by kernel_rfl) Ybaf.func3
    (OpenSpec.witness_stopped_atRef (enc := enc) (C := Ybaf.checked) false (World.doorLaid Ybaf.prog 74 os) #[.int .u8 0, .int .u16 0, .slice none 0 0] rfl (by kernel_rfl) (by kernel_rfl) (by kernel_rfl) (model_witness os enc)) ?_
  intro F W base args ds gs before _ hF hval0 hW hcnd0 _ _ hL _
  have hval : ∀ (j : Nat) t v, Ybaf.f3.params[j]? = some t → args[j]? = some v → Value.okWide Ybaf.prog W .any base t v := hval0
  have hW' := hW
  obtain ⟨p, q, hA0, hV0, rfl, _, _⟩ := hW
  have hA : DataW.TrodAll enc Ybaf.prog W 0 (fun _ => true) true Ybaf.f3.params.toList args.toList ds p := hA0
  rw [Ybaf.params3] at hA hval
  obtain ⟨v0, vs0, d0, ds0, p0, q0, hargs, rfl, rfl, h0, r0⟩ := trodAll_cons hA
  obtain ⟨v1, vs1, d1, ds1, p1, q1, rfl, rfl, rfl, h1, r1⟩ := trodAll_cons r0
  obtain ⟨v2, vs2, d2, ds2, p2, q2, rfl, rfl, rfl, h2, r2⟩ := trodAll_cons r1
  obtain ⟨rfl, rfl, rfl⟩ := trodAll_nil r2
  obtain rfl : args = #[v0, v1, v2] := by cases args; simp_all
  have hV : DataW.TrodVars enc Ybaf.prog W (fun _ => true) [mapName] gs q := hV0
  obtain ⟨gd, rfl⟩ : ∃ gd, gs = [gd] := by
    obtain ⟨_, _, _, _, gd, _, e, _⟩ := trodVars_one hV
    exact ⟨gd, e⟩
  obtain ⟨a0, rfl, rfl, rfl, w0⟩ := open_int Ybaf.underlying5 (hval 0 5 v0 rfl rfl) h0
  obtain ⟨a1, rfl, rfl, rfl, w1⟩ := open_int Ybaf.underlying22 (hval 1 22 v1 rfl rfl) h1
  obtain ⟨a2, len2, cap2, rfl⟩ := okWide_slice Ybaf.underlying23 (hval 2 23 v2 rfl rfl)
  have k2 := h2
  have lt2 : ∀ x ∈ p2, x.block < W.heap.size := by obtain ⟨m, hm⟩ := k2; exact DataW.trod_lt m _ _ _ hm
  obtain ⟨L2, hL2, _, hnil, hc2⟩ := open_bytes_m h2
  clear hA0 hval0
  refine (model_walk F.told a0 a1 w0 w1 a2 len2 cap2 L2 hL2 hnil W (env_of hF hL) hc2).mono fun e W' ⟨he, bel⟩ => ?_
  subst he
  exact ⟨_, rfl, _, _, _, [], _, _, hW', trodAll_mk1 (shut_bool Ybaf.underlying4 _), trodAll_mk3 (shut_int Ybaf.underlying5 w0) (shut_int Ybaf.underlying22 w1) (Below.trod laidOut (by kernel_rfl) (of_decide_eq_true (by kernel_rfl)) k2 bel lt2), vars_below bel hV, bel.frame _, fun h => by cases h⟩

/-- THE STATEMENT -/
theorem model_proved : Rows.LawS4758AModelToldSaid :=
  Claim7.holds_of_told_tied_any_at .later 3 Ybaf.f3 _ [] [] _ _ _ _ _ (by kernel_rfl) rfl rfl rfl laidOut (by kernel_rfl) rfl ⟨rfl, rfl, rfl, rfl, rfl, rfl, rfl⟩ rfl rfl (by kernel_rfl) (by kernel_rfl) Ybaf.func3 (by kernel_rfl)
    (of_decide_eq_true (by kernel_rfl)) (by unfold Func.isWrapper; first | (rw [if_pos (by decide +kernel)]; kernel_rfl) | (rw [if_neg (by decide +kernel)]; exact ⟨rfl, rfl⟩)) stops_eq_m.symm rfl knobs_nil_m.symm (by kernel_rfl)
    (by kernel_rfl) (by kernel_rfl) (by kernel_rfl) (by kernel_rfl) (by kernel_rfl) (by kernel_rfl) (by kernel_rfl) (by kernel_rfl) (by kernel_rfl) rfl (by kernel_rfl) rfl rfl
    rfl rfl
    rfl (by kernel_rfl) (by kernel_rfl) (by kernel_rfl) (by decide) (by kernel_rfl) lawS4758AModel_row_tie
    (OpenClaim.moreEntering_of (by kernel_rfl) (by kernel_rfl) (by kernel_rfl) (by kernel_rfl) (by kernel_rfl) (by kernel_rfl) (by kernel_rfl) (by kernel_rfl) (by kernel_rfl) (by kernel_rfl))
    ⟨_, WideRow.started_initial, quiet_os_m _⟩
    (fun os started _ H enc _ => model_lifted os started H enc)
#print axioms model_proved
end Go.Proofs.YbulkctnaFmt
