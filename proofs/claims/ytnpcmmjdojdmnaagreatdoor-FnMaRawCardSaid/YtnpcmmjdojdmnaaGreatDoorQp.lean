/- stringToBytes: what stands in memory between its calls. stringToBytes at a text whose pieces stand for the bytes of an address. -/
import Derived.Test.YtnpcmmjdojdmnaaGreatDoorQo
import Derived.Test.YtnpcmmjdojdmnaaGreatDoorQb
import Derived.Test.YtnpcmmjdojdmnaaGreatDoorQh
import Derived.Lib.BufferKept
import Derived.Lib.BufferOld
import Derived.Deep.RegionHeld3
import Derived.Deep.Onto
import Derived.WalkSmall
namespace Go.Proofs.YtnpcmmjdojdmnaaGreatDoor
open Go Go.RowKit

theorem cell_heap {w : World} {g j : Nat} {C : Array Value} {t : TypeId} {fr : Nat × Nat} {v : Value} (h : w.heap[g]? = some (.cells C t fr)) (hj : C[j]? = some v) : w.cell? ⟨g, j, none⟩ = some v := by
  simp [World.cell?, h, hj]

/-- Texts in a row, from the place k on. -/
def Txt (w : World) (gs k : Nat) (ps : List ByteArray) : Prop :=
  ∃ C fr, w.heap[gs]? = some (.cells C 9 fr) ∧ ∀ j s, ps[j]? = some s → C[k + j]? = some (.string s)
theorem Txt.lt {w : World} {gs k : Nat} {ps : List ByteArray} (h : Txt w gs k ps) : gs < w.heap.size := by
  obtain ⟨C, fr, h1, _⟩ := h
  exact (Array.getElem?_eq_some_iff.1 h1).1
theorem Txt.cell {w : World} {gs k : Nat} {ps : List ByteArray} (h : Txt w gs k ps) (j : Nat) {s : ByteArray} (hj : ps[j]? = some s) : w.cell? ⟨gs, k + j, none⟩ = some (.string s) := by
  obtain ⟨C, fr, h1, h2⟩ := h
  exact cell_heap h1 (h2 j s hj)
theorem Txt.tail {w : World} {gs k : Nat} {p : ByteArray} {ps : List ByteArray} (h : Txt w gs k (p :: ps)) : Txt w gs (k + 1) ps := by
  obtain ⟨C, fr, h1, h2⟩ := h
  exact ⟨C, fr, h1, fun j s hj => by have := h2 (j + 1) s (by simpa using hj); rwa [show k + 1 + j = k + (j + 1) by omega]⟩
theorem Txt.below {w w' : World} {gs k : Nat} {ps : List ByteArray} (h : Txt w gs k ps) (hb : Below w.heap.size w w') : Txt w' gs k ps := by
  have hl := h.lt
  obtain ⟨C, fr, h1, h2⟩ := h
  exact ⟨C, fr, (hb.block gs hl).trans h1, h2⟩
theorem Txt.others {w w' : World} {gs k b : Nat} {ps : List ByteArray} (h : Txt w gs k ps) (ho : Lib.OthersKept 5 (some b) w w') (hb : gs ≠ b) : Txt w' gs k ps := by
  obtain ⟨C, fr, h1, h2⟩ := h
  exact ⟨C, fr, ho gs _ h1 (by simpa using hb) (fun c fz e => by simp at e), h2⟩

/-- A block of six cells of a protocol. -/
def Pro (w : World) (p : Nat) (C : Array Value) : Prop := w.heap[p]? = some (.cells C 83 (0, 0))
theorem Pro.lt {w : World} {p : Nat} {C : Array Value} (h : Pro w p C) : p < w.heap.size := (Array.getElem?_eq_some_iff.1 h).1
theorem Pro.below {w w' : World} {p : Nat} {C : Array Value} (h : Pro w p C) (hb : Below w.heap.size w w') : Pro w' p C := (hb.block p h.lt).trans h
theorem Pro.others {w w' : World} {p b : Nat} {C : Array Value} (h : Pro w p C) (ho : Lib.OthersKept 5 (some b) w w') (hb : p ≠ b) : Pro w' p C :=
  ho p _ h (by simpa using hb) (fun c fz e => by simp at e)

/-- What a transcoder makes of a text. -/
def Val (c : Int) (v : ByteArray) (l : List UInt8) : Prop :=
  ∃ pl, tcv c = .iface 177 pl ∧ (∀ w : World, Calls Tryz.prog 429 #[pl, .string v] w fun e w' => ∃ val, e = .returned (.tuple #[val, .nilIface]) ∧ NewB w.heap.size w' val l ∧ Below w.heap.size w w') ∧
    ∀ (w : World) (g o cp : Nat), (∀ j (h : j < l.length), w.cell? ⟨g, o + j, none⟩ = some (.int .u8 l[j].toNat)) → Calls Tryz.prog 430 #[pl, .slice (some ⟨g, o, none⟩) l.length cp] w fun e w' => e = .returned .nilIface ∧ Below w.heap.size w w'

theorem nil_ahead_twrp (pl : Value) (w : World) : (nilAhead 458 177 pl "StringToBytes").run Tryz.prog w = .ok (some false) w := by kernel_rfl
theorem method_stb (pl : Value) (w : World) : (method 458 177 pl "StringToBytes").run Tryz.prog w = .ok (429, pl) w := by kernel_rfl
theorem method_val (pl : Value) (w : World) : (method 458 177 pl "ValidateBytes").run Tryz.prog w = .ok (430, pl) w := by kernel_rfl

/-- Pieces of a text that stand for the bytes of an address. -/
inductive Feeds : List ByteArray → List UInt8 → Prop
  | nil : Feeds [] []
  | val {c : Int} {v : ByteArray} {l : List UInt8} {ps : List ByteArray} {b : List UInt8} : known c = true → 0 < psz c → ppath c = false → Val c v l → Feeds ps b → Feeds (pname c :: v :: ps) (compBytes c l ++ b)
end Go.Proofs.YtnpcmmjdojdmnaaGreatDoor
namespace Go.Proofs.YtnpcmmjdojdmnaaGreatDoor
open Go Go.RowKit

set_option maxRecDepth 100000 in
set_option maxHeartbeats 4000000 in
theorem stringToBytes (s : ByteArray) (ps : List ByteArray) (b : List UInt8) (hp : pieces s.size s = ⟨#[]⟩ :: ps) (hf : Feeds ps b) (hne : ps ≠ []) (hs : s.size ≤ 1000000) (h1 : 1 ≤ s.size) (hc : ((47 : Int) == (s[s.size - 1].toNat : Int)) = false)
    (hb : b.length ≤ 1000000) (w : World) :
    Calls Tryz.prog 69 #[.string s] w fun e w' => ∃ v, e = .returned (.tuple #[v, .nilIface]) ∧ w'.ownsRow w.heap.size 5 1 v b.length (byteVals b) ∧ Below w.heap.size w w' := by
  have HT := Lib.hid (fun wx : World => zzTrimRight_no s 47 wx (by omega) h1 hc)
  have HS := Lib.hid (fun wx : World => zzSplit_slash s wx hs)
  clear hc
  have HPS := Lib.hid hp; clear hp
  have HF := Lib.hid hf; clear hf
  go_enter Tryz.func69, Tryz.ntmps69
  go_wp2_with (first
    | (go_at_call 103; with_reducible refine (HT.out _).mono ?_; rintro e w1 ⟨rfl, hb1⟩)
    | (go_at_call 104; with_reducible refine (HS.out _).mono ?_; rintro e w2 ⟨v, rfl, hown, hb2⟩; refine Hid.out ?_))
  refine Lib.hid ?_
  rw [HPS.out] at hown
  rcases hown.2 with ⟨_, h0⟩ | ⟨gs, cap, cur, rfl, hgs, hcur, hcap, hmax, -, htake⟩
  · simp at h0
  have htxt : Txt w2 gs 0 (⟨#[]⟩ :: ps) := by
    refine ⟨cur, (0, 0), hcur, fun j t hj => ?_⟩
    have h2 : (List.map Value.string ((⟨#[]⟩ : ByteArray) :: ps))[j]? = some (.string t) := by rw [List.getElem?_map, hj]; rfl
    rw [← htake, List.getElem?_take] at h2
    split at h2
    · rw [Nat.zero_add]; simpa using h2
    · cases h2
  have hbuf : Lib.IsBuffer 129 5 w1.heap.size w1.heap.size [] w2 := (Lib.fresh_isBuffer 129 5 w1).old hb2
  have hbW : Below w.heap.size w w2 := ((hb1.alloc hb1.size _).trans (hb2.mono (by have := hb1.size; simp; omega)))
  have hgB : w1.heap.size < gs := by simp at hgs; omega
  have hB1 := hb1.size
  have hB2 : w1.heap.size < w2.heap.size := by have := hb2.size; simp at this; omega
  clear hown hcur htake hb2 hgs hb1
  generalize w1.heap.size = B at *
  have c0 := htxt.cell 0 (s := ⟨#[]⟩) rfl
  rw [Nat.zero_add] at c0
  have HX := Lib.hid htxt.tail; clear htxt
  have HBU := Lib.hid hbuf; clear hbuf
  have hlen : 1 ≤ ps.length := List.length_pos_iff.2 hne
  have hcp : ps.length + 1 ≤ cap := by simpa using hcap
  clear hcap
  have hmx : cap ≤ 9223372036854775807 := by unfold maxLen at hmax; omega
  simp only [List.length_cons]
  go_wp2_with fail
  go_loopw [5] (fun v5 wr => ∃ (k cp : Nat) (qs : List ByteArray) (done rest : List UInt8), v5 = .slice (some ⟨gs, k, none⟩) qs.length cp ∧ qs.length ≤ cp ∧ cp ≤ 9223372036854775807 ∧ Hid (Feeds qs rest) ∧ Hid (b = done ++ rest) ∧ Hid (Txt wr gs k qs) ∧
      Hid (Lib.IsBuffer 129 5 B B (byteVals done) wr) ∧ Below w.heap.size w wr ∧ B < wr.heap.size) (fun v5 _ => match v5 with | .slice _ n _ => n | _ => 0)
  case atStart => exact ⟨1, cap - 1, ps, [], b, by simp, by omega, by omega, HF, Lib.hid rfl, HX, HBU, hbW, hB2⟩
  case round =>
    obtain ⟨k, cp, qs, done, rest, rfl, hq1, hq2, hfe, hbd, htx, hbu, hbl, hBs⟩ := hrel
    have hF := hfe.out
    cases hF with
    | nil =>
      clear HX HBU hfe
      have hbd2 := hbd.out
      rw [List.append_nil] at hbd2
      subst hbd2
      go_wp2_with (go_at_call 108; with_reducible refine (Tryz.Buffer_Bytes B B (byteVals b) _ hbu.out).mono ?_; rintro e w3 ⟨v, rfl, hown, n, rfl⟩)
      go_ret2
      refine ⟨v, rfl, ?_, below_drewN hbl n⟩
      rw [byteVals_length] at hown
      exact hown.mono hB1
    | val hk hz hpp hv hfr =>
      rename_i c v l ps' b'
      obtain ⟨pl, htc, hst, hva⟩ := hv
      have hN := protocolWithName c hk
      rw [htc, hpp] at hN
      have HN := Lib.hid hN; clear hN
      have HST := Lib.hid hst; clear hst
      have HVA := Lib.hid hva; clear hva
      have hne0 := known_ne hk
      have hzp : 0 < psz c := hz
      have hz0 : (psz c == 0) = false := by simp; omega
      have hcl : (Lib.uvarint c.toNat).length ≤ 10 := Lib.uvarint_length64 (by have := (uvarint_code hk).1; omega)
      have c0 := htx.out.cell 0 (s := pname c) rfl
      have c1 := htx.out.cell 1 (s := v) rfl
      rw [Nat.add_zero] at c0
      have HTX := Lib.hid htx.out.tail
      have hgw := htx.out.lt
      simp only [List.length_cons] at hq1 ⊢
      have n1 : 0 < (ps'.length : Int) + 1 + 1 := by omega
      have HBD := Lib.hid (And.intro hbd.out hb)
      have HFR := Lib.hid hfr; clear hfr
      clear HX HBU HF hfe hbd htx hz hpp htc HT HS HPS
      generalize hnm : pname c = nm at *
      generalize hsz : psz c = z at *
      go_wp2_with (go_at_call 105; (with_reducible refine (HN.out _).mono ?_); rintro e w3 ⟨vc, rfl, ⟨g, hg1, hg2, rfl, hg4⟩, hb3⟩; refine Hid.out ?_)
      refine Lib.hid ?_
      have hgB3 : B < g := by omega
      have hle3 := hb3.size
      have hdl : done.length ≤ 1000000 := by
        have h1 := congrArg List.length HBD.out.1
        rw [List.length_append] at h1
        have := HBD.out.2
        omega
      have hW1 := Tryz.Buffer_Write_any B B (byteVals done) (byteVals (Lib.uvarint c.toNat)) ⟨g, 0, none⟩ (Lib.uvarint c.toNat).length (Lib.uvarint c.toNat).length
        (w3.alloc (.cells #[.string nm, .int .i64 c, .slice (some ⟨g, 0, none⟩) (Lib.uvarint c.toNat).length (Lib.uvarint c.toNat).length, .int .i64 z, .bool false, .iface 177 pl] 83)) ((hbu.out.old hb3).alloc _)
        (by simp; omega) (byteVals_one _) (byteVals_length _) (by simp only; omega) (fun j u hu => by
          obtain ⟨hj, rfl⟩ := byteVals_get hu
          rw [Addr.add_lit, Nat.zero_add, World.cell?_alloc_past _ _ _ hg2]
          exact hg4 j hj) (byteVals_one _) (by rw [byteVals_length]; omega)
      have HW1 := Lib.hid hW1; clear hW1
      have hPB : B < w3.heap.size := by omega
      have hx3 : Txt (w3.alloc (.cells #[.string nm, .int .i64 c, .slice (some ⟨g, 0, none⟩) (Lib.uvarint c.toNat).length (Lib.uvarint c.toNat).length, .int .i64 z, .bool false, .iface 177 pl] 83)) gs (k + 1) (v :: ps') :=
        (HTX.out.below hb3).below ((Below.refl _ _).alloc (Nat.le_refl _) _)
      have hp3 : Pro (w3.alloc (.cells #[.string nm, .int .i64 c, .slice (some ⟨g, 0, none⟩) (Lib.uvarint c.toNat).length (Lib.uvarint c.toNat).length, .int .i64 z, .bool false, .iface 177 pl] 83)) w3.heap.size #[.string nm, .int .i64 c, .slice (some ⟨g, 0, none⟩) (Lib.uvarint c.toNat).length (Lib.uvarint c.toNat).length, .int .i64 z, .bool false, .iface 177 pl] := heap_alloc_new _ _
      have HX3 := Lib.hid hx3; clear hx3
      have HP3 := Lib.hid hp3; clear hp3
      have HB3 : Hid (Below w.heap.size w (w3.alloc (.cells #[.string nm, .int .i64 c, .slice (some ⟨g, 0, none⟩) (Lib.uvarint c.toNat).length (Lib.uvarint c.toNat).length, .int .i64 z, .bool false, .iface 177 pl] 83))) := Lib.hid ((hbl.trans (hb3.mono (by omega))).alloc (by omega) _)
      have HS3 : B < (w3.alloc (.cells #[.string nm, .int .i64 c, .slice (some ⟨g, 0, none⟩) (Lib.uvarint c.toNat).length (Lib.uvarint c.toNat).length, .int .i64 z, .bool false, .iface 177 pl] 83)).heap.size := by simp; omega
      clear hg4 c0 c1 HN HTX hbu hb3 hbl
      go_wp2_with (go_at_call 106; (with_reducible refine HW1.out.mono ?_); rintro e w4 ⟨rfl, hbu4, hb4, ho4⟩; refine Hid.out ?_)
      refine Lib.hid ?_
      have HX4 := Lib.hid (HX3.out.others ho4 (by omega))
      have HP4 := Lib.hid (HP3.out.others ho4 (by omega))
      have HBU4 := Lib.hid hbu4; clear hbu4
      have HB4 := Lib.hid (HB3.out.trans (hb4.mono (by omega)))
      have hs4 : B < w4.heap.size := Nat.lt_of_lt_of_le HS3 hb4.size
      clear hb4 ho4 HX3 HP3 HB3 HS3 HW1
      have d3 := cell_heap HP4.out (j := 3) rfl
      have d4 := cell_heap HP4.out (j := 4) rfl
      have d5 := cell_heap HP4.out (j := 5) rfl
      have c1 := HX4.out.cell 0 (s := v) rfl
      rw [Nat.add_zero] at c1
      generalize w3.heap.size = P at *
      have hM := method_stb pl
      have hNA := nil_ahead_twrp pl
      go_wp2_with fail
      go_region_held3 (fun w' => w'.cell? ⟨P, 5, none⟩ = some (.iface 177 pl) ∧ w'.cell? ⟨gs, k + 1, none⟩ = some (.string v))
        (first | exact ⟨d5, c1⟩ | exact ⟨d5', c1'⟩)
        (first
          | (go_at_call 429; (with_reducible refine (HST.out _).mono ?_); rintro e w5 ⟨val, rfl, ⟨g5, o5, cp5, rfl, hg51, hg52, hg53⟩, hb5⟩; have d5' := (hb5.cell (p := ⟨P, 5, none⟩) HP4.out.lt).trans d5; have c1' := (hb5.cell (p := ⟨gs, k + 1, none⟩) HX4.out.lt).trans c1))
      have hb5' : Below w4.heap.size w4 w5 := ⟨hb5.os, hb5.tape, hb5.output, hb5.size, hb5.block⟩
      have HX5 := Lib.hid (HX4.out.below hb5')
      have HP5 := Lib.hid (HP4.out.below hb5')
      have HBU5 := Lib.hid (HBU4.out.old hb5')
      have HB5 := Lib.hid (HB4.out.trans (hb5'.mono (by have := HB4.out.size; omega)))
      have hs5 : B < w5.heap.size := Nat.lt_of_lt_of_le hs4 hb5'.size
      have hgB5 : B < g5 := Nat.lt_of_lt_of_le hs4 hg51
      have HV5 := Lib.hid (HVA.out w5 g5 o5 cp5 hg53)
      have HG5 := Lib.hid hg53
      clear hb5 hb5' HX4 HP4 HBU4 HB4 c1 c1' d3 d4 d5 hg53 HVA HST
      have d3 := cell_heap HP5.out (j := 3) rfl
      have hMV := method_val pl
      go_wp2_with (go_at_call 430; (with_reducible refine HV5.out.mono ?_); rintro e w6 ⟨rfl, hb6⟩; refine Hid.out ?_)
      refine Lib.hid ?_
      have HX6 := Lib.hid (HX5.out.below hb6)
      have HP6 := Lib.hid (HP5.out.below hb6)
      have HBU6 := Lib.hid (HBU5.out.old hb6)
      have HB6 := Lib.hid (HB5.out.trans (hb6.mono (by have := HB5.out.size; omega)))
      have hs6 : B < w6.heap.size := Nat.lt_of_lt_of_le hs5 hb6.size
      have HG6 : Hid (∀ j (h : j < l.length), w6.cell? ⟨g5, o5 + j, none⟩ = some (.int .u8 l[j].toNat)) := Lib.hid fun j h => (hb6.cell (p := ⟨g5, o5 + j, none⟩) (by simp only; omega)).trans (HG5.out j h)
      have hg56 : g5 < w6.heap.size := Nat.lt_of_lt_of_le hg52 hb6.size
      clear d3 d5' hb6 HX5 HP5 HBU5 HB5 HG5 HV5 hg51 hg52
      have d3 := cell_heap HP6.out (j := 3) rfl
      have hwz : 0 < psz c := by rw [hsz]; exact hzp
      have q0 : decide (z < 0) = false := by simp; omega
      have hll : l.length ≤ 1000000 := by
        have h1 := congrArg List.length HBD.out.1
        simp only [List.length_append, compBytes] at h1
        have := HBD.out.2
        omega
      have HW6 := Lib.hid (Tryz.Buffer_Write_any B B (byteVals done ++ byteVals (Lib.uvarint c.toNat)) (byteVals l) ⟨g5, o5, none⟩ l.length cp5 w6 HBU6.out (by omega)
        (fun u hu => by rcases List.mem_append.1 hu with h | h <;> exact byteVals_one _ u h) (byteVals_length _) (by simp only; omega) (fun j u hu => by
          obtain ⟨hj, rfl⟩ := byteVals_get hu
          rw [Addr.add_lit]; exact HG6.out j hj) (byteVals_one _) (by rw [List.length_append, byteVals_length, byteVals_length]; omega))
      have hcb : compBytes c l = Lib.uvarint c.toNat ++ l := by rw [compBytes, if_neg (by omega), List.append_nil]
      have HCB := Lib.hid hcb; clear hcb hwz hzp
      go_wp2_with (go_at_call 106; (with_reducible refine HW6.out.mono ?_); rintro e w7 ⟨rfl, hbu7, hb7, ho7⟩)
      all_goals
        have hbl7 : Below w.heap.size w w7 := HB6.out.trans (hb7.mono hB1)
        have hs7 : B < w7.heap.size := Nat.lt_of_lt_of_le hs6 hb7.size
        have HX7 := (HX6.out.others ho7 (by omega)).tail
        have hbu8 : Lib.IsBuffer 129 5 B B (byteVals (done ++ compBytes c l)) w7 := by
          rw [HCB.out]
          have : byteVals (done ++ (Lib.uvarint c.toNat ++ l)) = byteVals done ++ byteVals (Lib.uvarint c.toNat) ++ byteVals l := by simp [byteVals]
          rw [this]; exact hbu7
        have hbd8 : b = (done ++ compBytes c l) ++ b' := by rw [HBD.out.1, List.append_assoc]
      · exact ⟨_, _, _, ⟨k + 1, 0, ps', rfl, by omega, by omega, _, _, HFR, Lib.hid hbd8, Lib.hid (by have h0 : ps' = [] := List.length_eq_zero_iff.1 (by omega); rw [h0]; obtain ⟨C, fr, h1, _⟩ := HX7; exact ⟨C, fr, h1, fun j s hj => by simp at hj⟩), Lib.hid hbu8, hbl7, hs7⟩, rfl, rfl, rfl⟩
      · exact ⟨_, _, _, ⟨k + 1 + 1, cp - 1 - 1, ps', rfl, by omega, by omega, _, _, HFR, Lib.hid hbd8, Lib.hid HX7, Lib.hid hbu8, hbl7, hs7⟩, rfl, rfl, rfl⟩
end Go.Proofs.YtnpcmmjdojdmnaaGreatDoor
