/- A component that comes in, opened. The row of FnMaComponents. -/
import Derived.Test.YtnpcmmjdojdmnaaGreatDoorQt
import Derived.ProofKit
import Derived.OpenShut
import Derived.LaidMore
import Derived.Lay
import Derived.Stop.Joined
import Derived.Lib.SmallJoins
import Derived.Test.YtnpcmmjdojdmnaaGreatDoorRows
import Derived.Carry
namespace Go.Proofs.YtnpcmmjdojdmnaaGreatDoor
open Go Go.ChangeShapes Go.WideShapes Go.ChangeAt Go.WideElems Go.RowKit

theorem cells24 : Tryz.prog.cellsOf 24 = 2 := by kernel_rfl
theorem cells5 : Tryz.prog.cellsOf 5 = 1 := by kernel_rfl
theorem laidOut : laidOutB Tryz.prog = true := by kernel_rfl
theorem own : ownKnob Tryz.prog.godebug = none := by kernel_rfl

set_option maxRecDepth 100000 in
set_option maxHeartbeats 4000000 in
theorem open_comp {H : Type} {enc : TypeId × Value → H} {W : World} {r : Reach} {b0 : Nat} {v : Value} {d : DataW H} {ps : List MemPlace} (hv : Value.okWide Tryz.prog W r b0 24 v) (h : DataW.Trod enc Tryz.prog W 0 (fun _ => true) true 24 v d ps) :
    ∃ (c : Int) (p : Option Addr) (l : List UInt8) (cp : Nat), v = .agg #[.int .i64 c, .slice p l.length cp] ∧ BytesAt W p l := by
  obtain ⟨c0, c1, y0, y1, m, rfl, rfl, rfl, hy0, hy1⟩ := Joins.open_agg2 Tryz.underlying24 (by kernel_rfl) cells24 hv h
  obtain ⟨c, e0, _, wc⟩ := DataW.trod_int Tryz.underlying3 hy0
  simp at e0
  subst e0
  rcases open_ints Tryz.underlying22 Tryz.underlying5 cells5 hy1 with ⟨hcs, hx⟩ | ⟨a, len, cap, zs, hcs, _, hl, hm, hz, hx, hcell, hwz⟩
  · simp at hcs
    subst hcs
    exact ⟨c, none, [], 0, rfl, fun _ => rfl, fun a ha => by cases ha⟩
  · simp at hcs
    subst hcs
    simp only [if_true] at hz
    have bnd : ∀ z ∈ zs, 0 ≤ z ∧ z ≤ 255 := fun z hz' => by
      have h5 := hwz z hz'
      have e1 : IntKind.u8.min = 0 := rfl
      have e2 : IntKind.u8.max = 255 := rfl
      simpa [Lit.wf, e1, e2] using h5
    have hlen : ((zs.take len).map fun z => UInt8.ofNat z.toNat).length = len := by simp; omega
    refine ⟨c, some a, (zs.take len).map fun z => UInt8.ofNat z.toNat, cap, by rw [hlen], ⟨fun e => (by cases e), ?_⟩⟩
    intro a' ha j hj
    cases ha
    rw [hlen] at hj
    have hjz : j < zs.length := by omega
    rw [hcell j hjz]
    have hb := bnd zs[j] (List.getElem_mem hjz)
    have e3 : zs.getD j 0 = zs[j] := by simp [List.getD, hjz]
    rw [e3]
    simp
    omega
end Go.Proofs.YtnpcmmjdojdmnaaGreatDoor
namespace Go.Proofs.YtnpcmmjdojdmnaaGreatDoor
open Go Go.ChangeShapes Go.WideShapes Go.ChangeAt Go.WideElems Go.RowKit

abbrev laidC : List (String × DataW Unit) := Rows.fnMaComponentsRow.laid

theorem laidC_fits (os : Os) : (World.holding Tryz.prog os ⟨#[], #[], []⟩).layFits Tryz.prog laidC [] = true := by kernel_rfl
theorem laidC_ifaces (os : Os) : (World.holding Tryz.prog os ⟨#[], #[], []⟩).layIfaces Tryz.prog laidC (World.laidAll Tryz.prog os laidC) = true := by kernel_rfl

set_option maxRecDepth 100000 in
set_option maxHeartbeats 4000000 in
theorem lifted (os : Os) (started : os.Started) (H : Type) (enc : TypeId × Value → H) :
    ReturnsInHanded {} Tryz.checked os 3 .any (fun w args => (Rows.fnMaComponentsSpec.pre enc Tryz.prog Tryz.f3 [] false w args ∧ laidMetH Tryz.prog laidC w) ∧ sizedMet enc Tryz.prog Tryz.f3 (OpenSpec.ofChange Rows.fnMaComponentsSpec) false w args)
      (Rows.fnMaComponentsSpec.post enc Tryz.prog Tryz.f3 false true false false) := by
  refine returnsInHanded_of_change_and (C := Tryz.checked) (X := fun w _ => laidMetH Tryz.prog laidC w) (fun _ _ _ hh h => h.of_heap hh) own started (by kernel_rfl) Tryz.func3
    (ChangeSpec.witness_shaped (enc := enc) (C := Tryz.checked) (os := os) (X := fun w _ => laidMetH Tryz.prog laidC w) false (World.laidAll Tryz.prog os laidC) #[.agg #[.int .i64 0, .slice none 0 0], .agg #[.int .i64 0, .slice none 0 0]] 8 (World.laidAll_os _ _ _)
      (World.shaped_of_ZipB (by kernel_rfl) (by kernel_rfl)) (by kernel_rfl) (by kernel_rfl) (by kernel_rfl)
      (by rw [MakeChecks.laidMetH_plain _ _ _ (by kernel_rfl)]; exact laidMet_laidAll _ (laidC_fits os) (laidC_ifaces os))) ?_
  intro W base args ds gs before hval0 hW _ _ _ _
  have hval : ∀ (j : Nat) t v, Tryz.f3.params[j]? = some t → args[j]? = some v → Value.okWide Tryz.prog W .any base t v := hval0
  have hW' := hW
  obtain ⟨p, q, hA0, hV, rfl, hfz, hnd⟩ := hW
  have hA : DataW.TrodAll enc Tryz.prog W 0 (fun _ => true) true Tryz.f3.params.toList args.toList ds p := hA0
  rw [Tryz.params3] at hA hval
  obtain ⟨v0, v1, d0, d1, p0, p1, rfl, rfl, rfl, h0, h1⟩ := trodAll_two hA
  obtain ⟨rfl, rfl⟩ := trodVars_none hV
  have h0k := h0
  have h1k := h1
  obtain ⟨c, pa, l, cp, rfl, hb0⟩ := open_comp (hval 0 24 v0 rfl rfl) h0
  obtain ⟨d, qa, m, cq, rfl, hb1⟩ := open_comp (hval 1 24 v1 rfl rfl) h1
  clear hA0 hval0 h0 h1
  simp only [List.append_nil] at hW'
  have hlt : ∀ x ∈ p0 ++ p1, x.block < W.heap.size := fun x hx => by simpa using hW'.lt x hx
  refine (fnMaComponents c d pa qa l m cp cq W hb0 hb1).mono fun e W' ⟨he, hnx⟩ => ?_
  subst he
  refine ⟨_, rfl, _, _, _, [], _, [], hW', trodAll_mk1 (shut_bool Tryz.underlying4 _), trodAll_mk2 (Below.trod laidOut (by kernel_rfl) (of_decide_eq_true (by kernel_rfl)) h0k hnx (fun x hx => hlt x (List.mem_append_left _ hx))) (Below.trod laidOut (by kernel_rfl) (of_decide_eq_true (by kernel_rfl)) h1k hnx (fun x hx => hlt x (List.mem_append_right _ hx))), rfl, hnx.frame _, fun h => by cases h⟩
end Go.Proofs.YtnpcmmjdojdmnaaGreatDoor
