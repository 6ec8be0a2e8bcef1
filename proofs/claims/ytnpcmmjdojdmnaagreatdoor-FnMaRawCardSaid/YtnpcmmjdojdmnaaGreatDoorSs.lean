/- The environment of the readers, out of the laid variables. The row of FnMaOne, lifted. -/
import Derived.Test.YtnpcmmjdojdmnaaGreatDoorSb
import Derived.Test.YtnpcmmjdojdmnaaGreatDoorRows
import Derived.ProofKit
import Derived.OpenShut
import Derived.LaidMore
import Derived.LaidSub
import Derived.Lay
import Derived.Stop.LaidErr
import Derived.Stop.Joined
import Derived.Carry
import Derived.Test.YtnpcmmjdojdmnaaGreatDoorSf
import Derived.Test.YtnpcmmjdojdmnaaGreatDoorSr
namespace Go.Proofs.YtnpcmmjdojdmnaaGreatDoor
open Go Go.ChangeShapes Go.WideShapes Go.ChangeAt Go.WideElems Go.RowKit

abbrev laidO : List (String × DataW Unit) := Rows.fnMaOneRow.laid
def urlZ : List Int := [0, 0, 0, 0, 0, 0, 0, 0, 0, 0, 0, 0, 0, 0, 0, 0, 0, 0, 0, 0, 0, 0, 0, 0, 0, 0, 0, 0, 0, 0, 0, 0, 0, 76, 12, 0, 95, 0, 95, 12, 76, 76, 76, 95, 93, 127, 127, 65, 255, 255, 255, 255, 255, 255, 255, 255, 255, 255, 79, 93, 12, 95, 12, 64, 67, 255, 255, 255, 255, 255, 255, 127, 127, 127, 127, 127, 127, 127, 127, 127, 127, 127, 127, 127, 127, 127, 127, 127, 127, 127, 127, 12, 0, 12, 0, 127, 0, 255, 255, 255, 255, 255, 255, 127, 127, 127, 127, 127, 127, 127, 127, 127, 127, 127, 127, 127, 127, 127, 127, 127, 127, 127, 127, 0, 0, 0, 127, 0, 0, 0, 0, 0, 0, 0, 0, 0, 0, 0, 0, 0, 0, 0, 0, 0, 0, 0, 0, 0, 0, 0, 0, 0, 0, 0, 0, 0, 0, 0, 0, 0, 0, 0, 0, 0, 0, 0, 0, 0, 0, 0, 0, 0, 0, 0, 0, 0, 0, 0, 0, 0, 0, 0, 0, 0, 0, 0, 0, 0, 0, 0, 0, 0, 0, 0, 0, 0, 0, 0, 0, 0, 0, 0, 0, 0, 0, 0, 0, 0, 0, 0, 0, 0, 0, 0, 0, 0, 0, 0, 0, 0, 0, 0, 0, 0, 0, 0, 0, 0, 0, 0, 0, 0, 0, 0, 0, 0, 0, 0, 0, 0, 0, 0, 0, 0, 0, 0, 0, 0, 0, 0, 0, 0, 0, 0, 0, 0]
theorem starO : "*" ++ "errors.errorString" = "*errors.errorString" := by decide
theorem row98 (u : TypeId) (h : Tryz.prog.typeName? 3 u = some "*errors.errorString") : u = 98 :=
  typeName_ptr_named (nm := "errors.errorString") (by rw [starO]; kernel_rfl) (by kernel_rfl) (by decide) u (by rw [starO]; exact h)
theorem cells100 : Tryz.prog.cellsOf 100 = 1 := by kernel_rfl
theorem cells9s : Tryz.prog.cellsOf 9 = 1 := by kernel_rfl

theorem sentAt {W : World} {n : String} {text : List UInt8} {g : Nat} (h : laidMet Tryz.prog laidO W) (e : laidO.filter (fun x => x.1 == n) = [(n, .iface "*errors.errorString" (.ptr (.agg [.lit (.string text)])))])
    (hg : Tryz.prog.globalNamed n = some g) (ht : (Tryz.prog.globals[g]?).map (·.type) = some 58) : ∃ t p, W.cell? ⟨g, 0, none⟩ = some (.iface t p) := by
  have h2 := h.filter (fun x => x.1 == n)
  rw [e] at h2
  obtain ⟨a, s, hv, -, -, -⟩ := laid_sentinel h2 hg ht Tryz.underlying58 row98 Tryz.underlying98 Tryz.underlying100 rfl rfl Tryz.underlying9 cells100 cells9s
  have h0 := World.var?_cell hg hv 0
  exact ⟨_, _, by simpa using h0⟩

theorem tabO {W : World} (h : laidMet Tryz.prog laidO W) : Tab W :=
  Lib.tabIs_of_head (g := (Tryz.prog.globalNamed "internal/strconv.uint64pow10").getD 0) (t := ((Tryz.prog.globals[(Tryz.prog.globalNamed "internal/strconv.uint64pow10").getD 0]?).map (·.type)).getD 0) (e := 67) (n := 20) (by kernel_rfl) (by kernel_rfl) (by kernel_rfl) (by kernel_rfl) (by kernel_rfl) (by kernel_rfl) h

set_option maxRecDepth 100000 in
theorem urlZ_len : urlZ.length = 256 := by kernel_rfl
set_option maxRecDepth 100000 in
theorem urlZ_byte : ∀ z ∈ urlZ, 0 ≤ z ∧ z ≤ 255 := by decide +kernel

set_option maxRecDepth 100000 in
theorem urlO {W : World} (h : laidMet Tryz.prog laidO W) : UrlTab W := by
  have h2 := h.filter (fun x => x.1 == "net/url.table")
  rw [show laidO.filter (fun x => x.1 == "net/url.table") = [("net/url.table", Lib.tabData .u8 urlZ)] by kernel_rfl] at h2
  have ht := Lib.tabIs_of_head (g := 22) (t := 330) (e := 242) (n := 256) (by kernel_rfl) (by kernel_rfl) (by kernel_rfl) (by kernel_rfl) (by kernel_rfl) (by kernel_rfl) h2
  intro i hi
  have h0 := World.var?_cell (show Tryz.prog.globalNamed "net/url.table" = some 22 by kernel_rfl) ht i
  have hl := urlZ_len
  obtain ⟨b0, b1⟩ := urlZ_byte urlZ[i] (List.getElem_mem (by omega))
  refine ⟨UInt8.ofNat urlZ[i].toNat, ?_⟩
  rw [h0, List.getElem?_toArray, List.getElem?_map, List.getElem?_eq_getElem (by omega)]
  generalize urlZ[i] = z at *
  have : (((UInt8.ofNat z.toNat).toNat : Nat) : Int) = z := by simp; omega
  rw [this]
  rfl

theorem envO {W : World} (h : laidMetH Tryz.prog laidO W) : Env W := by
  rw [MakeChecks.laidMetH_plain _ _ _ (by kernel_rfl)] at h
  refine ⟨tabO h, fun g hg => ?_, urlO h⟩
  simp only [List.mem_cons, List.not_mem_nil, or_false] at hg
  rcases hg with rfl | rfl | rfl | rfl | rfl | rfl
  · exact sentAt (n := "pub-brocade/pub/govarint.ErrOverflow") (text := [118, 97, 114, 105, 110, 116, 115, 32, 108, 97, 114, 103, 101, 114, 32, 116, 104, 97, 110, 32, 117, 105, 110, 116, 54, 51, 32, 110, 111, 116, 32, 115, 117, 112, 112, 111, 114, 116, 101, 100]) h (by kernel_rfl) (by kernel_rfl) (by kernel_rfl)
  · exact sentAt (n := "pub-brocade/pub/govarint.ErrNotMinimal") (text := [118, 97, 114, 105, 110, 116, 32, 110, 111, 116, 32, 109, 105, 110, 105, 109, 97, 108, 108, 121, 32, 101, 110, 99, 111, 100, 101, 100]) h (by kernel_rfl) (by kernel_rfl) (by kernel_rfl)
  · exact sentAt (n := "pub-brocade/pub/govarint.ErrUnderflow") (text := [118, 97, 114, 105, 110, 116, 115, 32, 109, 97, 108, 102, 111, 114, 109, 101, 100, 44, 32, 99, 111, 117, 108, 100, 32, 110, 111, 116, 32, 114, 101, 97, 99, 104, 32, 116, 104, 101, 32, 101, 110, 100]) h (by kernel_rfl) (by kernel_rfl) (by kernel_rfl)
  · exact sentAt (n := "pub-brocade/pub/gomultihash.ErrTooShort") (text := [109, 117, 108, 116, 105, 104, 97, 115, 104, 32, 116, 111, 111, 32, 115, 104, 111, 114, 116, 46, 32, 109, 117, 115, 116, 32, 98, 101, 32, 62, 61, 32, 50, 32, 98, 121, 116, 101, 115]) h (by kernel_rfl) (by kernel_rfl) (by kernel_rfl)
  · exact sentAt (n := "pub-brocade/pub/gomultihash.ErrVarintBufferShort") (text := [117, 118, 97, 114, 105, 110, 116, 58, 32, 98, 117, 102, 102, 101, 114, 32, 116, 111, 111, 32, 115, 109, 97, 108, 108]) h (by kernel_rfl) (by kernel_rfl) (by kernel_rfl)
  · exact sentAt (n := "pub-brocade/pub/gomultihash.ErrVarintTooLong") (text := [117, 118, 97, 114, 105, 110, 116, 58, 32, 118, 97, 114, 105, 110, 116, 32, 116, 111, 111, 32, 98, 105, 103, 32, 40, 109, 97, 120, 32, 54, 52, 98, 105, 116, 41]) h (by kernel_rfl) (by kernel_rfl) (by kernel_rfl)
end Go.Proofs.YtnpcmmjdojdmnaaGreatDoor
namespace Go.Proofs.YtnpcmmjdojdmnaaGreatDoor
open Go Go.ChangeShapes Go.WideShapes Go.ChangeAt Go.WideElems Go.RowKit

theorem cells5n : Tryz.prog.cellsOf 5 = 1 := by kernel_rfl
theorem laidOutN : laidOutB Tryz.prog = true := by kernel_rfl
theorem ownN : ownKnob Tryz.prog.godebug = none := by kernel_rfl
theorem laidO_fits (os : Os) : (World.holding Tryz.prog os ⟨#[], #[], []⟩).layFits Tryz.prog laidO [] = true := by kernel_rfl
theorem laidO_ifaces (os : Os) : (World.holding Tryz.prog os ⟨#[], #[], []⟩).layIfaces Tryz.prog laidO (World.laidAll Tryz.prog os laidO) = true := by kernel_rfl

set_option maxRecDepth 100000 in
set_option maxHeartbeats 4000000 in
theorem open_bytes {H : Type} {enc : TypeId × Value → H} {W : World} {r : Reach} {b0 : Nat} {v : Value} {d : DataW H} {ps : List MemPlace} (hv : Value.okWide Tryz.prog W r b0 22 v) (h : DataW.Trod enc Tryz.prog W 0 (fun _ => true) true 22 v d ps) :
    ∃ (p : Option Addr) (l : List UInt8) (cp : Nat), v = .slice p l.length cp ∧ l.length ≤ cp ∧ BytesAt W p l := by
  obtain ⟨fuel, hf⟩ := h
  obtain ⟨a0, len0, cap0, rfl⟩ := okWide_slice Tryz.underlying22 hv
  rcases open_ints Tryz.underlying22 Tryz.underlying5 cells5n hf with ⟨hcs, hx⟩ | ⟨a, len, cap, zs, hcs, _, hl, hm, hz, hx, hcell, hwz⟩
  · simp [Value.cells] at hcs
    obtain ⟨rfl, rfl, rfl⟩ := hcs
    exact ⟨none, [], 0, rfl, Nat.le_refl _, fun _ => rfl, fun a ha => by cases ha⟩
  · simp [Value.cells] at hcs
    obtain ⟨rfl, rfl, rfl⟩ := hcs
    simp only [if_true] at hz
    have bnd : ∀ z ∈ zs, 0 ≤ z ∧ z ≤ 255 := fun z hz' => by
      have h5 := hwz z hz'
      have e1 : IntKind.u8.min = 0 := rfl
      have e2 : IntKind.u8.max = 255 := rfl
      simpa [Lit.wf, e1, e2] using h5
    have hlen : ((zs.take len0).map fun z => UInt8.ofNat z.toNat).length = len0 := by simp; omega
    refine ⟨some a, (zs.take len0).map fun z => UInt8.ofNat z.toNat, cap0, by rw [hlen], by rw [hlen]; exact hl, ⟨fun e => (by cases e), ?_⟩⟩
    intro a' ha j hj
    cases ha
    rw [hlen] at hj
    have hjz : j < zs.length := by omega
    rw [hcell j hjz]
    have hb := bnd zs[j] (List.getElem_mem hjz)
    have e3 : zs.getD j 0 = zs[j] := by simp [List.getD, hjz]
    rw [e3]
    simp
    omega

set_option maxRecDepth 100000 in
set_option maxHeartbeats 4000000 in
theorem liftedMaOne (os : Os) (started : os.Started) (H : Type) (enc : TypeId × Value → H) :
    ReturnsInHanded {} Tryz.checked os 4 .any (fun w args => (Rows.fnMaOneSpec.pre enc Tryz.prog Tryz.f4 [] false w args ∧ laidMetH Tryz.prog laidO w) ∧ sizedMet enc Tryz.prog Tryz.f4 (OpenSpec.ofChange Rows.fnMaOneSpec) false w args)
      (Rows.fnMaOneSpec.post enc Tryz.prog Tryz.f4 false true false false) := by
  refine returnsInHanded_of_change_and (C := Tryz.checked) (X := fun w _ => laidMetH Tryz.prog laidO w) (fun _ _ _ hh h => h.of_heap hh) ownN started (by kernel_rfl) Tryz.func4
    (ChangeSpec.witness_shaped (enc := enc) (C := Tryz.checked) (os := os) (X := fun w _ => laidMetH Tryz.prog laidO w) false (World.laidAll Tryz.prog os laidO) #[.slice none 0 0] 8 (World.laidAll_os _ _ _)
      (World.shaped_of_ZipB (by kernel_rfl) (by kernel_rfl)) (by kernel_rfl) (by kernel_rfl) (by kernel_rfl)
      (by rw [MakeChecks.laidMetH_plain _ _ _ (by kernel_rfl)]; exact laidMet_laidAll _ (laidO_fits os) (laidO_ifaces os))) ?_
  intro W base args ds gs before hval0 hW a1 a2 a3 a4
  have hval : ∀ (j : Nat) t v, Tryz.f4.params[j]? = some t → args[j]? = some v → Value.okWide Tryz.prog W .any base t v := hval0
  have hW' := hW
  obtain ⟨p, q, hA0, hV, rfl, hfz, hnd⟩ := hW
  have hA : DataW.TrodAll enc Tryz.prog W 0 (fun _ => true) true Tryz.f4.params.toList args.toList ds p := hA0
  rw [Tryz.params4] at hA hval
  obtain ⟨v0, d0, rfl, rfl, h0⟩ := trodAll_one hA
  obtain ⟨rfl, rfl⟩ := trodVars_none hV
  have h0k := h0
  obtain ⟨pa, l, cp, rfl, hcp, hb0⟩ := open_bytes (hval 0 22 v0 rfl rfl) h0
  clear hA0 hval0 h0
  simp only [List.append_nil] at hW'
  have hlt : ∀ x ∈ p, x.block < W.heap.size := fun x hx => by simpa using hW'.lt x hx
  refine (fnMaOne allTrans pa l cp hcp W (envO (by first | exact a1 | exact a2 | exact a3 | exact a4)) hb0).mono fun e W' ⟨he, hnx⟩ => ?_
  subst he
  refine ⟨_, rfl, _, _, _, [], _, [], hW', trodAll_mk1 (shut_bool Tryz.underlying4 _), trodAll_mk1 (Below.trod laidOutN (by kernel_rfl) (of_decide_eq_true (by kernel_rfl)) h0k hnx hlt), rfl, hnx.frame _, fun h => by cases h⟩
end Go.Proofs.YtnpcmmjdojdmnaaGreatDoor
