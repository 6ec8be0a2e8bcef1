/- The row of FnNetIPBack. -/
import Derived.Test.YtnpcmmjdojdmnaaGreatDoorRl
import Derived.Test.YtnpcmmjdojdmnaaGreatDoorRows
import Derived.ProofKit
import Derived.OpenShut
import Derived.LaidMore
import Derived.Lay
import Derived.Stop.Joined
import Derived.Carry
namespace Go.Proofs.YtnpcmmjdojdmnaaGreatDoor
open Go Go.ChangeShapes Go.WideShapes Go.ChangeAt Go.WideElems Go.RowKit

theorem cells5n : Tryz.prog.cellsOf 5 = 1 := by kernel_rfl
theorem laidOutN : laidOutB Tryz.prog = true := by kernel_rfl
theorem ownN : ownKnob Tryz.prog.godebug = none := by kernel_rfl
abbrev laidN : List (String × DataW Unit) := Rows.fnNetIPBackRow.laid
theorem laidN_fits (os : Os) : (World.holding Tryz.prog os ⟨#[], #[], []⟩).layFits Tryz.prog laidN [] = true := by kernel_rfl
theorem laidN_ifaces (os : Os) : (World.holding Tryz.prog os ⟨#[], #[], []⟩).layIfaces Tryz.prog laidN (World.laidAll Tryz.prog os laidN) = true := by kernel_rfl

set_option maxRecDepth 100000 in
set_option maxHeartbeats 4000000 in
theorem open_bytes {H : Type} {enc : TypeId × Value → H} {W : World} {r : Reach} {b0 : Nat} {v : Value} {d : DataW H} {ps : List MemPlace} (hv : Value.okWide Tryz.prog W r b0 22 v) (h : DataW.Trod enc Tryz.prog W 0 (fun _ => true) true 22 v d ps) :
    ∃ (p : Option Addr) (l : List UInt8) (cp : Nat), v = .slice p l.length cp ∧ l.length ≤ cp ∧ BytesAt W p l := by
  obtain ⟨fuel, hf⟩ := h
  obtain ⟨a0, len0, cap0, rfl⟩ := okWide_slice Tryz.underlying22 hv
  rcases open_ints Tryz.underlying22 Tryz.underlying5 cells5n hf with ⟨hcs, hx⟩ | ⟨a, len, cap, zs, hcs, _, hl, hm, hz, hx, hcell, hwz⟩
  · simp [Value.cells] at hcs
    obtain ⟨rfl, rfl, rfl⟩ := hcs
    exact ⟨none, [], 0, rfl, Nat.le_refl _, fun _ => rfl, fun a ha => by cases ha⟩
  · simp [Value.cells] at hcs
    obtain ⟨rfl, rfl, rfl⟩ := hcs
    simp only [if_true] at hz
    have bnd : ∀ z ∈ zs, 0 ≤ z ∧ z ≤ 255 := fun z hz' => by
      have h5 := hwz z hz'
      have e1 : IntKind.u8.min = 0 := rfl
      have e2 : IntKind.u8.max = 255 := rfl
      simpa [Lit.wf, e1, e2] using h5
    have hlen : ((zs.take len0).map fun z => UInt8.ofNat z.toNat).length = len0 := by simp; omega
    refine ⟨some a, (zs.take len0).map fun z => UInt8.ofNat z.toNat, cap0, by rw [hlen], by rw [hlen]; exact hl, ⟨fun e => (by cases e), ?_⟩⟩
    intro a' ha j hj
    cases ha
    rw [hlen] at hj
    have hjz : j < zs.length := by omega
    rw [hcell j hjz]
    have hb := bnd zs[j] (List.getElem_mem hjz)
    have e3 : zs.getD j 0 = zs[j] := by simp [List.getD, hjz]
    rw [e3]
    simp
    omega

theorem tab_of_laid {W : World} (h : laidMetH Tryz.prog laidN W) : Tab W := by
  rw [MakeChecks.laidMetH_plain _ _ _ (by kernel_rfl)] at h
  exact Lib.tabIs_of_head (g := (Tryz.prog.globalNamed "internal/strconv.uint64pow10").getD 0) (t := ((Tryz.prog.globals[(Tryz.prog.globalNamed "internal/strconv.uint64pow10").getD 0]?).map (·.type)).getD 0) (e := 67) (n := 20) (by kernel_rfl) (by kernel_rfl) (by kernel_rfl) (by kernel_rfl) (by kernel_rfl) (by kernel_rfl) h

set_option maxRecDepth 100000 in
set_option maxHeartbeats 4000000 in
theorem liftedN (os : Os) (started : os.Started) (H : Type) (enc : TypeId × Value → H) :
    ReturnsInHanded {} Tryz.checked os 6 .any (fun w args => (Rows.fnNetIPBackSpec.pre enc Tryz.prog Tryz.f6 [] false w args ∧ laidMetH Tryz.prog laidN w) ∧ sizedMet enc Tryz.prog Tryz.f6 (OpenSpec.ofChange Rows.fnNetIPBackSpec) false w args)
      (Rows.fnNetIPBackSpec.post enc Tryz.prog Tryz.f6 false true false false) := by
  refine returnsInHanded_of_change_and (C := Tryz.checked) (X := fun w _ => laidMetH Tryz.prog laidN w) (fun _ _ _ hh h => h.of_heap hh) ownN started (by kernel_rfl) Tryz.func6
    (ChangeSpec.witness_shaped (enc := enc) (C := Tryz.checked) (os := os) (X := fun w _ => laidMetH Tryz.prog laidN w) false (World.laidAll Tryz.prog os laidN) #[.slice none 0 0] 8 (World.laidAll_os _ _ _)
      (World.shaped_of_ZipB (by kernel_rfl) (by kernel_rfl)) (by kernel_rfl) (by kernel_rfl) (by kernel_rfl)
      (by rw [MakeChecks.laidMetH_plain _ _ _ (by kernel_rfl)]; exact laidMet_laidAll _ (laidN_fits os) (laidN_ifaces os))) ?_
  intro W base args ds gs before hval0 hW a1 a2 a3 a4
  have hval : ∀ (j : Nat) t v, Tryz.f6.params[j]? = some t → args[j]? = some v → Value.okWide Tryz.prog W .any base t v := hval0
  have hW' := hW
  obtain ⟨p, q, hA0, hV, rfl, hfz, hnd⟩ := hW
  have hA : DataW.TrodAll enc Tryz.prog W 0 (fun _ => true) true Tryz.f6.params.toList args.toList ds p := hA0
  rw [Tryz.params6] at hA hval
  obtain ⟨v0, d0, rfl, rfl, h0⟩ := trodAll_one hA
  obtain ⟨rfl, rfl⟩ := trodVars_none hV
  have h0k := h0
  obtain ⟨pa, l, cp, rfl, hcp, hb0⟩ := open_bytes (hval 0 22 v0 rfl rfl) h0
  clear hA0 hval0 h0
  simp only [List.append_nil] at hW'
  have hlt : ∀ x ∈ p, x.block < W.heap.size := fun x hx => by simpa using hW'.lt x hx
  refine (fnNetIPBack pa l cp hcp W (tab_of_laid (by first | exact a1 | exact a2 | exact a3 | exact a4)) hb0).mono fun e W' ⟨he, hnx⟩ => ?_
  subst he
  refine ⟨_, rfl, _, _, _, [], _, [], hW', trodAll_mk1 (shut_bool Tryz.underlying4 _), trodAll_mk1 (Below.trod laidOutN (by kernel_rfl) (of_decide_eq_true (by kernel_rfl)) h0k hnx hlt), rfl, hnx.frame _, fun h => by cases h⟩
end Go.Proofs.YtnpcmmjdojdmnaaGreatDoor
