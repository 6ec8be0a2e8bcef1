/- base64: Encode (293), with padding and without. base64: NewEncoding (289). base64: EncodedLen (292), EncodeToString (259), WithPadding (364); garlic64 (221), certhash (227): BytesToString. -/
import Derived.Test.YtnpcmmjdojdmnaaGreatDoorSk
import Derived.Lib.BufferWrite
import Derived.Lib.SmallJoins
import Derived.BigQuiet
import Derived.Test.YtnpcmmjdojdmnaaGreatDoorSm
import Derived.Great.Ranges
namespace Go.Proofs.YtnpcmmjdojdmnaaGreatDoor
open Go Go.RowKit Go.Sort

/-- The last six bits. -/
def i63 (x : Int) : Nat := (bits .and .u64 x 63).toNat
theorem and63 (x : Int) : ∃ i : Nat, i < 64 ∧ bits .and .u64 x 63 = (i : Int) := by
  refine ⟨(BitVec.ofInt 64 x &&& 63#64).toNat, ?_, ?_⟩
  · rw [BitVec.toNat_and]
    exact Nat.lt_of_le_of_lt Nat.and_le_right (by decide)
  · have h : (BitVec.ofInt 64 x &&& 63#64).toNat < 64 := by
      rw [BitVec.toNat_and]
      exact Nat.lt_of_le_of_lt Nat.and_le_right (by decide)
    show IntKind.u64.wrap (((BitVec.ofInt 64 x &&& BitVec.ofInt 64 63).toNat : Nat) : Int) = _
    have e : BitVec.ofInt 64 63 = 63#64 := by decide
    rw [e, IntWalk.u64_in _ (by omega)]
theorem i63_eq (x : Int) : bits .and .u64 x 63 = ((i63 x : Nat) : Int) := by
  obtain ⟨i, hi, h⟩ := and63 x
  rw [i63, h]; rfl
theorem i63_lt (x : Int) : i63 x < 64 := by
  obtain ⟨i, hi, h⟩ := and63 x
  rw [i63, h]
  exact hi

/-- The length of what Encode writes. -/
def Len64 (pz : Int) (n N : Nat) : Prop := (pz = 61 ∧ N = (n + 2) / 3 * 4) ∨ (pz = -1 ∧ N = n / 3 * 4 + (n % 3 * 8 + 5) / 6)

theorem Bys.setP {w : World} {g N : Nat} (h : Bys w g N) (i : Nat) (v : Value) (hv : ∃ b : UInt8, v = .int .u8 b.toNat) : Bys (w.setCell ⟨g, i, none⟩ v) g N := by
  obtain ⟨b, rfl⟩ := hv
  exact h.set i b

set_option maxRecDepth 100000 in
set_option maxHeartbeats 16000000 in
theorem enc64' (f : Int → Nat) (hf : ∀ x, bits .and .u64 x 63 = ((f x : Nat) : Int)) (hf2 : ∀ x, f x < 64) (ge gd gs os n N cps cpd : Nat) (pz : Int) (E l : List UInt8) (w : World) (hE : E.length = 64) (hat : At w ge 0 E) (hpad : w.cell? ⟨ge, 320, none⟩ = some (.int .i32 pz)) (hl : l.length = n) (hs : At w gs os l) (hd : Bys w gd N) (hge : ge < gd) (hgs : gs < gd) (_hgd : gd < w.heap.size) (hN : Len64 pz n N) (hcp : n ≤ cps) (hcd : N ≤ cpd) (hlim : n ≤ 1000000) (hn : 1 ≤ n) :
    Calls Tryz.prog 293 #[.pointer (some ⟨ge, 0, none⟩), .slice (some ⟨gd, 0, none⟩) N cpd, .slice (some ⟨gs, os, none⟩) n cps] w fun e w' => e = .returned (.tuple #[]) ∧ Bys w' gd N ∧ Below gd w w' := by
  have e0 : ((n : Int) == 0) = false := by
    have : (n : Int) ≠ 0 := by omega
    simpa using this
  have HR : Hid (w.rangeAt ge 0 (byteVals E)) := Lib.hid (fun j v hj => by
    obtain ⟨hj', rfl⟩ := byteVals_get hj
    exact hat j hj')
  have HI : Hid ((Tryz.prog.info? 269).map (·.size) = some (byteVals E).length) := Lib.hid (by rw [byteVals_length, hE]; kernel_rfl)
  have HALL := Lib.hid (And.intro hE (And.intro hat (And.intro hpad (And.intro hl (And.intro hs hd)))))
  have HN := Lib.hid hN
  clear hE hat hpad hl hs hd hN
  go_enter Tryz.func293, Tryz.ntmps293
  go_wp2_with (refine wpList_load_mid rfl 269 (.tmp 14) rfl ge 0 rfl (byteVals E) _ HR.out Tryz.underlying269 rfl HI.out ?_)
  go_simp
  clear e0
  go_loopw [1, 2] (fun v1 v2 wr => ∃ (k o1 c1 o2 c2 : Nat), 3 * k ≤ n ∧ 4 * k ≤ N ∧ v1 = .slice (some ⟨gd, o1, none⟩) (N - 4 * k) c1 ∧ N - 4 * k ≤ c1 ∧ o1 + (N - 4 * k) ≤ N ∧ v2 = .slice (some ⟨gs, o2, none⟩) (n - 3 * k) c2 ∧ n - 3 * k ≤ c2 ∧ Hid (At wr gs o2 (l.drop (3 * k))) ∧ Hid (Bys wr gd N) ∧ Below gd w wr) (fun _ v2 _ => match v2 with | .slice _ n _ => n | _ => 0)
  case atStart =>
    obtain ⟨hE, hat, hpad, hl, hs, hd⟩ := HALL.out
    exact ⟨0, 0, cpd, os, cps, by omega, by omega, rfl, hcd, by omega, rfl, hcp, Lib.hid (by simpa using hs), Lib.hid hd, Below.refl _ _⟩
  case round =>
    obtain ⟨k, o1, c1, o2, c2, hk, hk4, rfl, hc1, ho1, rfl, hc2, hs, hd, hbl⟩ := hrel
    obtain ⟨hE, hat, hpad, hl, _, _⟩ := HALL.out
    obtain ⟨m, hm⟩ : ∃ m, m = n - 3 * k := ⟨_, rfl⟩
    obtain ⟨Nr, hNr⟩ : ∃ Nr, Nr = N - 4 * k := ⟨_, rfl⟩
    have hmN : Len64 pz m Nr := by
      rcases HN.out with h | h
      · exact Or.inl ⟨h.1, by omega⟩
      · exact Or.inr ⟨h.1, by omega⟩
    have hlen : (l.drop (3 * k)).length = m := by rw [List.length_drop, hl, hm]
    rw [← hm] at hc2
    rw [← hNr] at hc1 ho1
    have hatr : At wr ge 0 E := hat.below hbl hge
    have hilt : ∀ x, (((f x : Nat) : Int) < 64) = True := fun x => by have := hf2 x; simp; omega
    have hic : ∀ x, wr.cell? ⟨ge, f x, none⟩ = some (.int .u8 (E.getD (f x) 0).toNat) := fun x => by
      have h := hatr (f x) (by rw [hE]; exact hf2 x)
      rw [Nat.zero_add] at h
      rw [h]
      simp [List.getD, hE, hf2 x]
    have g1 : (ge = gd) = False := eq_false (by omega)
    have g2 : (gs = gd) = False := eq_false (by omega)
    have hpr : wr.cell? ⟨ge, 320, none⟩ = some (.int .i32 pz) := (hbl.cell (p := ⟨ge, 320, none⟩) hge).trans hpad
    by_cases h3 : 3 ≤ m
    · have e5 : decide (3 ≤ (m : Int)) = true := by simp; omega
      have hs' := hs.out
      obtain ⟨x0, hx0⟩ : ∃ x, x = (l.drop (3 * k))[0] := ⟨_, rfl⟩
      have s0 : wr.cell? ⟨gs, o2, none⟩ = some (.int .u8 x0.toNat) := by rw [hx0]; exact hs' 0 (by omega)
      obtain ⟨x1, hx1⟩ : ∃ x, x = (l.drop (3 * k))[1] := ⟨_, rfl⟩
      have s1 : wr.cell? ⟨gs, o2 + 1, none⟩ = some (.int .u8 x1.toNat) := by rw [hx1]; exact hs' 1 (by omega)
      obtain ⟨x2, hx2⟩ : ∃ x, x = (l.drop (3 * k))[2] := ⟨_, rfl⟩
      have s2 : wr.cell? ⟨gs, o2 + 2, none⟩ = some (.int .u8 x2.toNat) := by rw [hx2]; exact hs' 2 (by omega)
      have hm8 : 4 ≤ Nr := by
        rcases hmN with h | h <;> omega
      obtain ⟨y0, d0, f0⟩ := hd.out (o1) (by omega)
      obtain ⟨y1, d1, f1⟩ := hd.out (o1 + 1) (by omega)
      obtain ⟨y2, d2, f2⟩ := hd.out (o1 + 2) (by omega)
      obtain ⟨y3, d3, f3⟩ := hd.out (o1 + 3) (by omega)
      have HS := Lib.hid (And.intro hm (And.intro hNr hmN))
      have HA5 : Hid (At wr gs (if c2 = 3 then o2 else o2 + 3) (l.drop (3 * (k + 1)))) := Lib.hid (by
        have hd5 : l.drop (3 * (k + 1)) = (l.drop (3 * k)).drop 3 := by rw [List.drop_drop]; congr 1
        rw [hd5]
        exact at_tail hs.out 3 c2 (by rw [hlen]; exact h3) (by rw [hlen]; exact hc2))
      have HBY := Lib.hid hd.out
      clear hx0 hx1 hx2 hs' hlen hatr hat hE hpad hl hs hd
      rw [← hm, ← hNr]
      clear hm hNr hmN
      go_wp2
      go_quiet (fail)
      generalize bits BinOp.or IntKind.u64 _ _ = H
      go_wp2
      obtain ⟨hm, hNr, hmN⟩ := HS.out
      have hN8 : N - 4 * (k + 1) = Nr - 4 := by omega
      have hm5 : n - 3 * (k + 1) = m - 3 := by omega
      have hB8 := fun (v0 v1 v2 v3 : Value) => bset gd (bset gd (bset gd (bset gd (Go.below_drewN (Below.refl gd wr) nq) (Nat.le_refl gd) (o1) v0) (Nat.le_refl gd) (o1 + 1) v1) (Nat.le_refl gd) (o1 + 2) v2) (Nat.le_refl gd) (o1 + 3) v3
      refine ⟨⟨k + 1, (if c1 = 4 then o1 else o1 + 4), c1 - 4, (if c2 = 3 then o2 else o2 + 3), c2 - 3, by omega, by omega, ?_, by omega, ?_, ?_, by omega, Lib.hid (HA5.out.below (hB8 _ _ _ _) hgs), Lib.hid ((((((HBY.out.drewN nq).set o1 _).set (o1 + 1) _).set (o1 + 2) _).set (o1 + 3) _)), hbl.trans (hB8 _ _ _ _)⟩, ?_⟩
      · rw [hN8]; split <;> rfl
      · split <;> omega
      · rw [hm5]; split <;> rfl
      · show m - 3 < m
        omega
    · have e5 : decide (3 ≤ (m : Int)) = false := by simp; omega
      have HBY := Lib.hid hd.out
      have hs' := hs.out
      have hcs : m = 0 ∨ m = 1 ∨ m = 2 := by omega
      rw [← hm, ← hNr]
      clear hatr hat hE hpad hl hs
      rcases hcs with h | h | h
      · have hz : ((m : Int) == 0) = true := by rw [h]; rfl
        clear hm hNr hmN hs' hd h3 h
        go_wp2
        refine ⟨rfl, .tuple #[], by simp [results, Tryz.results293], rfl, HBY.out, hbl⟩
      · rcases hmN with hp | hp
        · obtain ⟨rfl, hN8⟩ := hp
          have hN8 : Nr = 4 := by omega
          rw [hN8] at ho1 hc1 ⊢
          obtain ⟨x0, hx0⟩ : ∃ x, x = (l.drop (3 * k))[0]'(by omega) := ⟨_, rfl⟩
          have s0 : wr.cell? ⟨gs, o2, none⟩ = some (.int .u8 x0.toNat) := by rw [hx0]; exact hs' 0 (by omega)
          obtain ⟨y0, d0, f0⟩ := hd.out (o1) (by omega)
          obtain ⟨y1, d1, f1⟩ := hd.out (o1 + 1) (by omega)
          obtain ⟨y2, d2, f2⟩ := hd.out (o1 + 2) (by omega)
          obtain ⟨y3, d3, f3⟩ := hd.out (o1 + 3) (by omega)
          clear hx0
          clear hs' hlen hm hNr hd h3 e5 hN8
          subst h
          go_wp2
          refine ⟨rfl, .tuple #[], by simp [results, Tryz.results293], rfl, ?_, ?_⟩
          · exact ((((HBY.out.set o1 _).set (o1 + 1) _).set61 (o1 + 2)).set61 (o1 + 3))
          · exact hbl.trans (bset gd (bset gd (bset gd (bset gd (Below.refl gd wr) (Nat.le_refl gd) o1 _) (Nat.le_refl gd) (o1 + 1) _) (Nat.le_refl gd) (o1 + 2) _) (Nat.le_refl gd) (o1 + 3) _)
        · obtain ⟨rfl, hN8⟩ := hp
          have hN8 : Nr = 2 := by omega
          rw [hN8] at ho1 hc1 ⊢
          obtain ⟨x0, hx0⟩ : ∃ x, x = (l.drop (3 * k))[0]'(by omega) := ⟨_, rfl⟩
          have s0 : wr.cell? ⟨gs, o2, none⟩ = some (.int .u8 x0.toNat) := by rw [hx0]; exact hs' 0 (by omega)
          obtain ⟨y0, d0, f0⟩ := hd.out (o1) (by omega)
          obtain ⟨y1, d1, f1⟩ := hd.out (o1 + 1) (by omega)
          clear hx0
          clear hs' hlen hm hNr hd h3 e5 hN8
          subst h
          go_wp2
          refine ⟨rfl, .tuple #[], by simp [results, Tryz.results293], rfl, ?_, ?_⟩
          · exact ((HBY.out.set o1 _).set (o1 + 1) _)
          · exact hbl.trans (bset gd (bset gd (Below.refl gd wr) (Nat.le_refl gd) o1 _) (Nat.le_refl gd) (o1 + 1) _)
      · rcases hmN with hp | hp
        · obtain ⟨rfl, hN8⟩ := hp
          have hN8 : Nr = 4 := by omega
          rw [hN8] at ho1 hc1 ⊢
          obtain ⟨x0, hx0⟩ : ∃ x, x = (l.drop (3 * k))[0]'(by omega) := ⟨_, rfl⟩
          have s0 : wr.cell? ⟨gs, o2, none⟩ = some (.int .u8 x0.toNat) := by rw [hx0]; exact hs' 0 (by omega)
          obtain ⟨x1, hx1⟩ : ∃ x, x = (l.drop (3 * k))[1]'(by omega) := ⟨_, rfl⟩
          have s1 : wr.cell? ⟨gs, o2 + 1, none⟩ = some (.int .u8 x1.toNat) := by rw [hx1]; exact hs' 1 (by omega)
          obtain ⟨y0, d0, f0⟩ := hd.out (o1) (by omega)
          obtain ⟨y1, d1, f1⟩ := hd.out (o1 + 1) (by omega)
          obtain ⟨y2, d2, f2⟩ := hd.out (o1 + 2) (by omega)
          obtain ⟨y3, d3, f3⟩ := hd.out (o1 + 3) (by omega)
          clear hx0 hx1
          clear hs' hlen hm hNr hd h3 e5 hN8
          subst h
          go_wp2
          go_quiet (fail)
          generalize bits BinOp.or IntKind.u64 _ _ = H
          go_wp2
          refine ⟨rfl, .tuple #[], by simp [results, Tryz.results293], rfl, ?_, ?_⟩
          · exact (((((HBY.out.drewN nq).set o1 _).set (o1 + 1) _).set (o1 + 2) _).set61 (o1 + 3))
          · exact hbl.trans (bset gd (bset gd (bset gd (bset gd (Go.below_drewN (Below.refl gd wr) nq) (Nat.le_refl gd) o1 _) (Nat.le_refl gd) (o1 + 1) _) (Nat.le_refl gd) (o1 + 2) _) (Nat.le_refl gd) (o1 + 3) _)
        · obtain ⟨rfl, hN8⟩ := hp
          have hN8 : Nr = 3 := by omega
          rw [hN8] at ho1 hc1 ⊢
          obtain ⟨x0, hx0⟩ : ∃ x, x = (l.drop (3 * k))[0]'(by omega) := ⟨_, rfl⟩
          have s0 : wr.cell? ⟨gs, o2, none⟩ = some (.int .u8 x0.toNat) := by rw [hx0]; exact hs' 0 (by omega)
          obtain ⟨x1, hx1⟩ : ∃ x, x = (l.drop (3 * k))[1]'(by omega) := ⟨_, rfl⟩
          have s1 : wr.cell? ⟨gs, o2 + 1, none⟩ = some (.int .u8 x1.toNat) := by rw [hx1]; exact hs' 1 (by omega)
          obtain ⟨y0, d0, f0⟩ := hd.out (o1) (by omega)
          obtain ⟨y1, d1, f1⟩ := hd.out (o1 + 1) (by omega)
          obtain ⟨y2, d2, f2⟩ := hd.out (o1 + 2) (by omega)
          clear hx0 hx1
          clear hs' hlen hm hNr hd h3 e5 hN8
          subst h
          go_wp2
          go_quiet (fail)
          generalize bits BinOp.or IntKind.u64 _ _ = H
          go_wp2
          refine ⟨rfl, .tuple #[], by simp [results, Tryz.results293], rfl, ?_, ?_⟩
          · exact ((((HBY.out.drewN nq).set o1 _).set (o1 + 1) _).set (o1 + 2) _)
          · exact hbl.trans (bset gd (bset gd (bset gd (Go.below_drewN (Below.refl gd wr) nq) (Nat.le_refl gd) o1 _) (Nat.le_refl gd) (o1 + 1) _) (Nat.le_refl gd) (o1 + 2) _)

theorem enc64 (ge gd gs os n N cps cpd : Nat) (pz : Int) (E l : List UInt8) (w : World) (hE : E.length = 64) (hat : At w ge 0 E) (hpad : w.cell? ⟨ge, 320, none⟩ = some (.int .i32 pz)) (hl : l.length = n) (hs : At w gs os l) (hd : Bys w gd N) (hge : ge < gd) (hgs : gs < gd) (hgd : gd < w.heap.size) (hN : Len64 pz n N) (hcp : n ≤ cps) (hcd : N ≤ cpd) (hlim : n ≤ 1000000) (hn : 1 ≤ n) :
    Calls Tryz.prog 293 #[.pointer (some ⟨ge, 0, none⟩), .slice (some ⟨gd, 0, none⟩) N cpd, .slice (some ⟨gs, os, none⟩) n cps] w fun e w' => e = .returned (.tuple #[]) ∧ Bys w' gd N ∧ Below gd w w' :=
  enc64' i63 i63_eq i63_lt ge gd gs os n N cps cpd pz E l w hE hat hpad hl hs hd hge hgs hgd hN hcp hcd hlim hn
end Go.Proofs.YtnpcmmjdojdmnaaGreatDoor
namespace Go.Proofs.YtnpcmmjdojdmnaaGreatDoor
open Go Go.RowKit Go.Sort

/-- An encoder of base 64 in memory, with its padding. -/
def Enc64 (w : World) (q : Nat) (pz : Int) : Prop := q < w.heap.size ∧ w.cell? ⟨q, 320, none⟩ = some (.int .i32 pz) ∧ ∃ E : List UInt8, E.length = 64 ∧ At w q 0 E
theorem Enc64.below {B q : Nat} {pz : Int} {w w' : World} (h : Enc64 w q pz) (hb : Below B w w') (hq : q < B) : Enc64 w' q pz := by
  obtain ⟨h1, h2, E, h3, h4⟩ := h
  exact ⟨Nat.lt_of_lt_of_le h1 hb.size, (hb.cell (p := ⟨q, 320, none⟩) hq).trans h2, E, h3, h4.below hb hq⟩

theorem range_of {w : World} {q n : Nat} (h : ∀ j, j < n → ∃ v, w.cell? ⟨q, j, none⟩ = some v) : ∃ cs : List Value, cs.length = n ∧ w.rangeAt q 0 cs := by
  refine ⟨(List.range n).map fun j => (w.cell? ⟨q, j, none⟩).getD .nilIface, by simp, fun j v hv => ?_⟩
  rw [List.getElem?_map] at hv
  by_cases hj : j < n
  · obtain ⟨u, hu⟩ := h j hj
    rw [List.getElem?_range hj, Option.map_some, hu] at hv
    rw [Nat.zero_add, hu]
    simpa using hv
  · rw [List.getElem?_eq_none (by simp; omega)] at hv
    cases hv

theorem zero271 : Tryz.zeroCells271.size = 322 := by kernel_rfl

/-- The row of an encoder: letters, the map so far, the padding. -/
structure Row64 (s : ByteArray) (k : Nat) (Y : Array Value) : Prop where
  size : Y.size = 322
  letters : ∀ j (h : j < s.size), Y[j]? = some (.int .u8 s[j].toNat)
  pad : Y[320]? = some (.int .i32 61)
  free : ∀ x : UInt8, (∀ i (h : i < s.size), i < k → s[i] ≠ x) → Y[64 + x.toNat]? = some (.int .u8 255)

/-- The same in a world, at the block g. -/
structure RowX (s : ByteArray) (k g : Nat) (w : World) : Prop where
  letters : ∀ j (h : j < s.size), w.cell? ⟨g, j, none⟩ = some (.int .u8 s[j].toNat)
  pad : w.cell? ⟨g, 320, none⟩ = some (.int .i32 61)
  free : ∀ x : UInt8, (∀ i (h : i < s.size), i < k → s[i] ≠ x) → w.cell? ⟨g, 64 + x.toNat, none⟩ = some (.int .u8 255)
  whole : ∀ j, j < 322 → ∃ v, w.cell? ⟨g, j, none⟩ = some v
  soft : ∀ j, j < 322 → w.frozen? ⟨g, j, none⟩ = false
  lt : g < w.heap.size

theorem RowX.of {s : ByteArray} {k : Nat} {Y : Array Value} (h : Row64 s k Y) (w : World) (_hs : s.size = 64) : RowX s k w.heap.size (w.alloc (.cells Y 271)) := by
  have hc : ∀ j, (w.alloc (.cells Y 271)).cell? ⟨w.heap.size, j, none⟩ = Y[j]? := fun j => by
    simp only [World.cell?, heap_alloc_last]
    rfl
  refine ⟨fun j hj => (hc j).trans (h.letters j hj), (hc _).trans h.pad, fun x hx => (hc _).trans (h.free x hx), fun j hj => ⟨Y[j]'(by have := h.size; omega), (hc j).trans (by rw [Array.getElem?_eq_getElem])⟩, fun j hj => ?_, by simp⟩
  have := h.size
  simp only [World.frozen?, heap_alloc_last]
  simp

theorem RowX.drew {s : ByteArray} {k g : Nat} {w : World} (h : RowX s k g w) (n : Nat) : RowX s k g (w.drewN n) :=
  ⟨fun j hj => by rw [World.cell?_drewN]; exact h.letters j hj, by rw [World.cell?_drewN]; exact h.pad, fun x hx => by rw [World.cell?_drewN]; exact h.free x hx,
    fun j hj => by rw [World.cell?_drewN]; exact h.whole j hj, fun j hj => by rw [World.frozen?_drewN]; exact h.soft j hj, by have := h.lt; simpa using this⟩

theorem RowX.step {s : ByteArray} {k g : Nat} {w : World} (h : RowX s k g w) (hs : s.size = 64) (hk : k < s.size) (v : Value) : RowX s (k + 1) g (w.setCell ⟨g, 64 + s[k].toNat, none⟩ v) := by
  have hx := s[k].toNat_lt
  refine ⟨fun j hj => ?_, ?_, fun x hx => ?_, fun j hj => ?_, fun j hj => ?_, ?_⟩
  · rw [World.cell?_setCell_other _ _ _ _ (by intro e; injection e with e1 e2; omega)]; exact h.letters j hj
  · rw [World.cell?_setCell_other _ _ _ _ (by intro e; injection e with e1 e2; omega)]; exact h.pad
  · rw [World.cell?_setCell_other _ _ _ _ (by
      intro e; injection e with e1 e2
      exact hx k hk (by omega) (UInt8.toNat_inj.1 (by omega)))]
    exact h.free x fun i hi hik => hx i hi (by omega)
  · by_cases e : j = 64 + s[k].toNat
    · subst e
      exact ⟨v, World.cell?_setCell_same _ _ _ (h.whole _ hj).choose_spec⟩
    · rw [World.cell?_setCell_other _ _ _ _ (by intro e2; injection e2 with e3 e4; exact e e4.symm)]; exact h.whole j hj
  · rw [World.frozen?_setCell]; exact h.soft j hj
  · have := h.lt
    simpa using this

set_option maxRecDepth 1000000 in
set_option maxHeartbeats 8000000 in
theorem new64 (s : ByteArray) (hs : s.size = 64) (hch : ∀ i (h : i < s.size), s[i] ≠ 10 ∧ s[i] ≠ 13) (hnd : ∀ i j (hi : i < s.size) (hj : j < s.size), i < j → s[i] ≠ s[j]) (w : World) :
    Calls Tryz.prog 289 #[.string s] w fun e w' => ∃ q, e = .returned (.pointer (some ⟨q, 0, none⟩)) ∧ w.heap.size ≤ q ∧ (∃ cs : List Value, cs.length = 322 ∧ w'.rangeAt q 0 cs ∧ Enc64 w' q 61) ∧ Below w.heap.size w w' := by
  have e1 : ((s.size : Int) != 64) = false := by rw [hs]; rfl
  obtain ⟨X0, hX0⟩ : ∃ X0, X0 = Tryz.zeroCells271.setIfInBounds 320 (.int .i32 61) := ⟨_, rfl⟩
  have sX : X0.size = 322 := by rw [hX0, Array.size_setIfInBounds, zero271]
  have pX : X0[320]? = some (.int .i32 61) := by rw [hX0]; simp
  obtain ⟨Y1, hY1⟩ : ∃ Y1, Y1 = (X0.toList.take 0 ++ Lib.byteCells s.data.toList ++ X0.toList.drop (0 + s.size)).toArray := ⟨_, rfl⟩
  have hcp1 : (Builtin.copy_ #[22, 9] 3 #[.slice (some ⟨w.heap.size, 0, none⟩) 64 64, .string s]).run Tryz.prog (w.alloc (.cells X0 271)) = .ok (goInt 64) (w.alloc (.cells Y1 271)) := by
    have := Lib.run_copy_row_string (P := Tryz.prog) (w.alloc (.cells X0 271)) 22 9 3 5 w.heap.size 0 64 64 s X0 271 Tryz.underlying22 (by kernel_rfl) (heap_alloc_last w _) (by omega) (by omega)
    rw [this, hs, World.setRow_alloc_new, hY1, hs]
    rfl
  have b1 : Lib.byteCells s.data.toList = byteVals s.data.toList := rfl
  have l1 : (byteVals s.data.toList).length = 64 := by rw [byteVals_length, Array.length_toList]; exact hs
  have sY1 : Y1.size = 322 := by
    rw [hY1, b1]
    simp [l1, hs, sX]
  have gY1 : ∀ j (h : j < s.size), Y1[j]? = some (.int .u8 s[j].toNat) := fun j h => by
    rw [hY1, b1, List.take_zero, List.nil_append, List.getElem?_toArray, List.getElem?_append_left (by omega)]
    have hj : j < s.data.toList.length := by rw [Array.length_toList]; exact h
    simp only [byteVals, List.getElem?_map, List.getElem?_eq_getElem hj, Option.map_some, Array.getElem_toList]
    rfl
  have pY1 : Y1[320]? = some (.int .i32 61) := by
    rw [hY1, b1, List.take_zero, List.nil_append, List.getElem?_toArray, List.getElem?_append_right (by omega), l1, List.getElem?_drop, hs, Array.getElem?_toList]
    exact pX
  rw [hX0] at hcp1
  clear hX0 hY1 sX pX b1 l1
  go_enter Tryz.func289, Tryz.ntmps289
  go_name_bytes_deep 40 MA hMA
  clear hMA
  go_name_bytes_deep 40 FF hFF
  have lFF : FF.data.toList = List.replicate 256 255 := by rw [← hFF]; decide +kernel
  clear hFF
  have sFF : FF.size = 256 := by
    show FF.data.size = 256
    rw [← Array.length_toList, lFF, List.length_replicate]
  obtain ⟨Y2, hY2⟩ : ∃ Y2, Y2 = (Y1.toList.take 64 ++ Lib.byteCells FF.data.toList ++ Y1.toList.drop (64 + FF.size)).toArray := ⟨_, rfl⟩
  have hcp2 : (Builtin.copy_ #[22, 9] 3 #[.slice (some ⟨w.heap.size, 64, none⟩) 256 256, .string FF]).run Tryz.prog (w.alloc (.cells Y1 271)) = .ok (goInt 256) (w.alloc (.cells Y2 271)) := by
    have := Lib.run_copy_row_string (P := Tryz.prog) (w.alloc (.cells Y1 271)) 22 9 3 5 w.heap.size 64 256 256 FF Y1 271 Tryz.underlying22 (by kernel_rfl) (heap_alloc_last w _) (by omega) (by omega)
    rw [this, sFF, World.setRow_alloc_new, hY2, sFF]
    rfl
  have b2 : Lib.byteCells FF.data.toList = byteVals (List.replicate 256 255) := by rw [lFF]; rfl
  have l2 : (byteVals (List.replicate 256 255)).length = 256 := by rw [byteVals_length, List.length_replicate]
  have lt1 : (Y1.toList.take 64).length = 64 := by rw [List.length_take, Array.length_toList, sY1]; rfl
  have HROW : Hid (Row64 s 0 Y2) := Lib.hid (by
    refine ⟨?_, fun j h => ?_, ?_, fun x _ => ?_⟩
    · rw [hY2, b2, List.size_toArray, List.length_append, List.length_append, lt1, l2, List.length_drop, Array.length_toList, sY1, sFF]
    · rw [hY2, b2, List.getElem?_toArray, List.append_assoc, List.getElem?_append_left (by omega), List.getElem?_take_of_lt (by omega), Array.getElem?_toList]
      exact gY1 j h
    · rw [hY2, b2, List.getElem?_toArray, List.getElem?_append_right (by rw [List.length_append]; omega), List.length_append, lt1, l2, List.getElem?_drop, sFF, Array.getElem?_toList]
      exact pY1
    · have hx := x.toNat_lt
      rw [hY2, b2, List.getElem?_toArray, List.append_assoc, List.getElem?_append_right (by omega), lt1, List.getElem?_append_left (by omega)]
      rw [show 64 + x.toNat - 64 = x.toNat by omega]
      simp only [byteVals, List.map_replicate, List.getElem?_replicate]
      rw [if_pos (by omega)]
      rfl)
  clear hY2 b2 l2 lt1 gY1 pY1 sY1 lFF sFF
  skip
  obtain ⟨W, hW⟩ : ∃ W, W = w.alloc (.cells Y2 271) := ⟨_, rfl⟩
  have HW : Hid (RowX s 0 w.heap.size W ∧ Below w.heap.size w W) := Lib.hid ⟨by rw [hW]; exact RowX.of HROW.out w hs, by rw [hW]; exact (Below.refl _ _).alloc (Nat.le_refl _) _⟩
  have H := Lib.hid (And.intro hch hnd)
  go_wp2
  rw [← hW]
  clear hW HROW hch hnd
  go_loopw [4] (fun v4 wr => ∃ k : Nat, v4 = .int .i64 k ∧ k ≤ 64 ∧ Hid (RowX s k w.heap.size wr) ∧ Below w.heap.size w wr) (fun v4 _ => 64 - (intOf v4).toNat)
  case atStart => exact ⟨0, rfl, Nat.zero_le _, Lib.hid HW.out.1, HW.out.2⟩
  case round =>
    obtain ⟨k, rfl, hk, hd, hbl⟩ := hrel
    by_cases hlt : k < s.size
    · obtain ⟨hc1, hc2⟩ := H.out.1 k hlt
      have c1 : ((s[k].toNat : Int) == 10) = false := by
        rw [beq_eq_false_iff_ne]; intro e; exact hc1 (UInt8.toNat_inj.1 (by simpa using (by omega : s[k].toNat = 10)))
      have c2 : ((s[k].toNat : Int) == 13) = false := by
        rw [beq_eq_false_iff_ne]; intro e; exact hc2 (UInt8.toNat_inj.1 (by simpa using (by omega : s[k].toNat = 13)))
      have hx := s[k].toNat_lt
      have hfree := hd.out.free s[k] (fun i hi hik => H.out.2 i k hi hlt hik)
      have hsoft := hd.out.soft (64 + s[k].toNat) (by omega)
      clear hc1 hc2
      go_wp2
      go_quiet (fail)
      go_wp2
      go_region
      go_wp2
      exact ⟨⟨k + 1, rfl, by omega, Lib.hid ((hd.out.drew _).step hs hlt _), bset w.heap.size (Go.below_drewN hbl _) (Nat.le_refl _) _ _⟩, by simp [intOf]; omega⟩
    · go_wp2
      go_ret
      obtain ⟨r1, r2, r3, r6, r4, r5⟩ := hd.out
      obtain ⟨cs, hcs, hra⟩ := range_of r6
      exact ⟨w.heap.size, rfl, Nat.le_refl _, ⟨cs, hcs, hra, r5, r2, s.data.toList, by rw [Array.length_toList]; exact hs, fun j hj => by
        rw [Nat.zero_add, r1 j (by rw [Array.length_toList] at hj; exact hj)]
        rfl⟩, hbl⟩
end Go.Proofs.YtnpcmmjdojdmnaaGreatDoor
namespace Go.Proofs.YtnpcmmjdojdmnaaGreatDoor
open Go Go.RowKit Go.Sort

set_option maxRecDepth 100000 in
set_option maxHeartbeats 4000000 in
theorem len64a (q n : Nat) (w : World) (hp : w.cell? ⟨q, 320, none⟩ = some (.int .i32 61)) (hn : n ≤ 1000000) : Calls Tryz.prog 292 #[.pointer (some ⟨q, 0, none⟩), .int .i64 n] w fun e w' => e = .returned (.int .i64 (((n + 2) / 3 * 4 : Nat) : Int)) ∧ w = w' := by
  have e1 : IntKind.i64.wrap ((n : Int) + 2) = ((n + 2 : Nat) : Int) := by rw [IntWalk.i64_in _ (by omega)]; simp
  have e2 : (((n + 2 : Nat) : Int)).tdiv 3 = (((n + 2) / 3 : Nat) : Int) := by rw [Int.tdiv_eq_ediv_of_nonneg (by omega)]; simp
  have e3 : IntKind.i64.wrap ((((n + 2) / 3 : Nat) : Int) * 4) = (((n + 2) / 3 * 4 : Nat) : Int) := by rw [IntWalk.i64_in _ (by omega)]; simp
  go_enter Tryz.func292, Tryz.ntmps292
  go_wp2
  go_ret
  refine ⟨?_, rfl⟩
  refine congrArg (fun z => Ending.returned (Value.int .i64 z)) ?_
  simp

set_option maxRecDepth 100000 in
set_option maxHeartbeats 4000000 in
theorem len64b (q n : Nat) (w : World) (hp : w.cell? ⟨q, 320, none⟩ = some (.int .i32 (-1))) (hn : n ≤ 1000000) : Calls Tryz.prog 292 #[.pointer (some ⟨q, 0, none⟩), .int .i64 n] w fun e w' => e = .returned (.int .i64 ((n / 3 * 4 + (n % 3 * 8 + 5) / 6 : Nat) : Int)) ∧ w = w' := by
  have e1 : ((n : Int)).tdiv 3 = ((n / 3 : Nat) : Int) := by rw [Int.tdiv_eq_ediv_of_nonneg (by omega)]; simp
  have e2 : IntKind.i64.wrap (((n / 3 : Nat) : Int) * 4) = ((n / 3 * 4 : Nat) : Int) := by rw [IntWalk.i64_in _ (by omega)]; simp
  have e3 : ((n : Int)).tmod 3 = ((n % 3 : Nat) : Int) := by rw [Int.tmod_eq_emod_of_nonneg (by omega)]; simp
  have e4 : IntKind.i64.wrap (((n % 3 : Nat) : Int) * 8) = ((n % 3 * 8 : Nat) : Int) := by rw [IntWalk.i64_in _ (by omega)]; simp
  have e5 : IntKind.i64.wrap (((n % 3 * 8 : Nat) : Int) + 5) = ((n % 3 * 8 + 5 : Nat) : Int) := by rw [IntWalk.i64_in _ (by omega)]; simp
  have e6 : (((n % 3 * 8 + 5 : Nat) : Int)).tdiv 6 = (((n % 3 * 8 + 5) / 6 : Nat) : Int) := by rw [Int.tdiv_eq_ediv_of_nonneg (by omega)]; simp
  have e7 : IntKind.i64.wrap (((n / 3 * 4 : Nat) : Int) + (((n % 3 * 8 + 5) / 6 : Nat) : Int)) = ((n / 3 * 4 + (n % 3 * 8 + 5) / 6 : Nat) : Int) := by rw [IntWalk.i64_in _ (by omega)]; simp
  go_enter Tryz.func292, Tryz.ntmps292
  go_wp2
  go_ret
  refine ⟨?_, rfl⟩
  refine congrArg (fun z => Ending.returned (Value.int .i64 z)) ?_
  simp

theorem len64 (pz : Int) (q n : Nat) (w : World) (hz : pz = 61 ∨ pz = -1) (hp : w.cell? ⟨q, 320, none⟩ = some (.int .i32 pz)) (hn : n ≤ 1000000) : ∃ N : Nat, N ≤ 2000000 ∧ Len64 pz n N ∧ Calls Tryz.prog 292 #[.pointer (some ⟨q, 0, none⟩), .int .i64 n] w fun e w' => e = .returned (.int .i64 N) ∧ w = w' := by
  rcases hz with rfl | rfl
  · exact ⟨_, by omega, Or.inl ⟨rfl, rfl⟩, len64a q n w hp hn⟩
  · exact ⟨_, by omega, Or.inr ⟨rfl, rfl⟩, len64b q n w hp hn⟩

set_option maxRecDepth 100000 in
set_option maxHeartbeats 8000000 in
theorem encStr64 (pz : Int) (hz : pz = 61 ∨ pz = -1) (l : List UInt8) (hl : 1 ≤ l.length) (hlim : l.length ≤ 1000000) (q g o cp : Nat) (w : World) (he : Enc64 w q pz) (hc : At w g o l) (hcp : l.length ≤ cp) :
    Calls Tryz.prog 259 #[.pointer (some ⟨q, 0, none⟩), .slice (some ⟨g, o, none⟩) l.length cp] w fun e w' => ∃ s, e = .returned (.string s) ∧ s.size ≤ 2000000 ∧ Below w.heap.size w w' := by
  obtain ⟨i0, hi, hz0, hz1, hz2⟩ := info_parts info5
  obtain ⟨hq, hp, E, hE, hat⟩ := he
  obtain ⟨N, hN1, hN, h287⟩ := len64 pz q l.length w hz hp hlim
  have H287 := Lib.hid h287
  have hgl : g < w.heap.size := hc.lt (by omega)
  have HALL := Lib.hid (And.intro hp (And.intro hE (And.intro hat (And.intro hc hN))))
  clear hp hE hat hc hz h287 hN
  go_enter Tryz.func259, Tryz.ntmps259
  go_wp2_with (first
    | (go_at_call 292; (with_reducible refine H287.out.mono ?_); rintro e w1 ⟨rfl, rfl⟩)
    | (at_make; refine wpList_make_full _ rfl (.tmp 9) (.tmp 9) 22 rfl w.heap.size 5 i0 (.int .u8 0) 1 Tryz.underlying22 hi hz0 hz1 .i64 .i64 _ _ N rfl rfl rfl rfl ?c1 ?c2 (Nat.le_refl _) ?_))
  case c1 => rw [hz2]; omega
  case c2 => unfold maxLen; omega
  intro w3 hown hgrow
  obtain ⟨hp, hE, hat, hc, hN⟩ := HALL.out
  have hb3 : Below w.heap.size w w3 := ⟨hgrow.os, hgrow.tape, hgrow.output, hgrow.size, fun k hk => hgrow.block k hk (by simp)⟩
  have hlt3 : w.heap.size < w3.heap.size := (hown.lt w.heap.size rfl).2
  have hB : Bys w3 w.heap.size N := fun j hj => by
    refine ⟨0, ?_, hown.frozenAt j⟩
    have := hown.cellAt j (by simp; omega)
    rw [this]
    simp [madeCells]
    exact ⟨j, by rw [List.getElem?_range (by omega)], by simp [Nat.mod_one]⟩
  have H288 : Hid (∀ cd, N ≤ cd → Calls Tryz.prog 293 #[.pointer (some ⟨q, 0, none⟩), .slice (some ⟨w.heap.size, 0, none⟩) N cd, .slice (some ⟨g, o, none⟩) l.length cp] w3 fun e w' => e = .returned (.tuple #[]) ∧ Bys w' w.heap.size N ∧ Below w.heap.size w w') := Lib.hid fun cd hcd => by
    refine (enc64 q w.heap.size g o l.length N cp cd pz E l w3 hE (hat.below hb3 hq) ((hb3.cell (p := ⟨q, 320, none⟩) hq).trans hp) rfl (hc.below hb3 hgl) hB hq hgl hlt3 hN hcp hcd hlim hl).mono ?_
    rintro e w' ⟨rfl, h1, h2⟩
    exact ⟨rfl, h1, hb3.trans h2⟩
  clear hp hE hat hc hN hown hgrow hB
  go_wp2_with (go_at_call 293; (with_reducible refine (H288.out _ (by first | exact Nat.le_refl _ | exact le_grown _ _)).mono ?_); rintro e w5 ⟨rfl, hB5, hb5⟩; obtain ⟨s, hs, hcv⟩ := bys_string hB5 N)
  go_ret
  exact ⟨s, rfl, by omega, hb5⟩

set_option maxRecDepth 100000 in
set_option maxHeartbeats 8000000 in
theorem pad364 (cs : List Value) (hcs : cs.length = 322) (E : List UInt8) (hE : E.length = 64) (hl : ∀ j (h : j < E.length), cs[j]? = some (.int .u8 E[j].toNat)) (w : World) :
    Calls Tryz.prog 364 #[.agg cs.toArray, .int .i32 (-1)] w fun e w' => ∃ q, e = .returned (.pointer (some ⟨q, 0, none⟩)) ∧ Enc64 w' q (-1) ∧ Below w.heap.size w w' := by
  have hc : ∀ j, (w.alloc (.cells cs.toArray 271)).cell? ⟨w.heap.size, j, none⟩ = cs[j]? := fun j => by
    simp only [World.cell?, heap_alloc_last]
    exact List.getElem?_toArray
  obtain ⟨v, hv⟩ : ∃ v, cs[320]? = some v := ⟨_, List.getElem?_eq_getElem (by omega)⟩
  have c320 := (hc 320).trans hv
  have f320 : (w.alloc (.cells cs.toArray 271)).frozen? ⟨w.heap.size, 320, none⟩ = false := by
    simp only [World.frozen?, heap_alloc_last]
    simp
  have hb : Below w.heap.size w (w.alloc (.cells cs.toArray 271)) := (Below.refl _ _).alloc (Nat.le_refl _) _
  have H := Lib.hid (And.intro hc (And.intro hE hl))
  have hlt : w.heap.size < (w.alloc (.cells cs.toArray 271)).heap.size := by simp
  clear hc hE hl
  go_enter Tryz.func364, Tryz.ntmps364
  go_wp2_with (refine wpList_boxTo rfl 271 _ rfl (some 2) rfl w.heap.size rfl cs.toArray rfl ?_)
  go_ret
  obtain ⟨hc, hE, hl⟩ := H.out
  refine ⟨w.heap.size, rfl, ⟨by simp, ?_, E, hE, fun j hj => ?_⟩, (Below.refl _ _).alloc (Nat.le_refl _) _⟩
  · simp only [World.cell?, heap_alloc_last]
    rw [List.getElem?_toArray, List.getElem?_set_self (by omega)]
    rfl
  · simp only [World.cell?, heap_alloc_last]
    rw [List.getElem?_toArray, List.getElem?_set_ne (by omega), Nat.zero_add]
    exact hl j hj

set_option maxRecDepth 1000000 in
theorem gar64_ch : ∀ i (h : i < (⟨#[65, 66, 67, 68, 69, 70, 71, 72, 73, 74, 75, 76, 77, 78, 79, 80, 81, 82, 83, 84, 85, 86, 87, 88, 89, 90, 97, 98, 99, 100, 101, 102, 103, 104, 105, 106, 107, 108, 109, 110, 111, 112, 113, 114, 115, 116, 117, 118, 119, 120, 121, 122, 48, 49, 50, 51, 52, 53, 54, 55, 56, 57, 45, 126]⟩ : ByteArray).size), (⟨#[65, 66, 67, 68, 69, 70, 71, 72, 73, 74, 75, 76, 77, 78, 79, 80, 81, 82, 83, 84, 85, 86, 87, 88, 89, 90, 97, 98, 99, 100, 101, 102, 103, 104, 105, 106, 107, 108, 109, 110, 111, 112, 113, 114, 115, 116, 117, 118, 119, 120, 121, 122, 48, 49, 50, 51, 52, 53, 54, 55, 56, 57, 45, 126]⟩ : ByteArray)[i] ≠ 10 ∧ (⟨#[65, 66, 67, 68, 69, 70, 71, 72, 73, 74, 75, 76, 77, 78, 79, 80, 81, 82, 83, 84, 85, 86, 87, 88, 89, 90, 97, 98, 99, 100, 101, 102, 103, 104, 105, 106, 107, 108, 109, 110, 111, 112, 113, 114, 115, 116, 117, 118, 119, 120, 121, 122, 48, 49, 50, 51, 52, 53, 54, 55, 56, 57, 45, 126]⟩ : ByteArray)[i] ≠ 13 := by decide +kernel
set_option maxRecDepth 1000000 in
theorem gar64_nd : ∀ i j (hi : i < (⟨#[65, 66, 67, 68, 69, 70, 71, 72, 73, 74, 75, 76, 77, 78, 79, 80, 81, 82, 83, 84, 85, 86, 87, 88, 89, 90, 97, 98, 99, 100, 101, 102, 103, 104, 105, 106, 107, 108, 109, 110, 111, 112, 113, 114, 115, 116, 117, 118, 119, 120, 121, 122, 48, 49, 50, 51, 52, 53, 54, 55, 56, 57, 45, 126]⟩ : ByteArray).size) (hj : j < (⟨#[65, 66, 67, 68, 69, 70, 71, 72, 73, 74, 75, 76, 77, 78, 79, 80, 81, 82, 83, 84, 85, 86, 87, 88, 89, 90, 97, 98, 99, 100, 101, 102, 103, 104, 105, 106, 107, 108, 109, 110, 111, 112, 113, 114, 115, 116, 117, 118, 119, 120, 121, 122, 48, 49, 50, 51, 52, 53, 54, 55, 56, 57, 45, 126]⟩ : ByteArray).size), i < j → (⟨#[65, 66, 67, 68, 69, 70, 71, 72, 73, 74, 75, 76, 77, 78, 79, 80, 81, 82, 83, 84, 85, 86, 87, 88, 89, 90, 97, 98, 99, 100, 101, 102, 103, 104, 105, 106, 107, 108, 109, 110, 111, 112, 113, 114, 115, 116, 117, 118, 119, 120, 121, 122, 48, 49, 50, 51, 52, 53, 54, 55, 56, 57, 45, 126]⟩ : ByteArray)[i] ≠ (⟨#[65, 66, 67, 68, 69, 70, 71, 72, 73, 74, 75, 76, 77, 78, 79, 80, 81, 82, 83, 84, 85, 86, 87, 88, 89, 90, 97, 98, 99, 100, 101, 102, 103, 104, 105, 106, 107, 108, 109, 110, 111, 112, 113, 114, 115, 116, 117, 118, 119, 120, 121, 122, 48, 49, 50, 51, 52, 53, 54, 55, 56, 57, 45, 126]⟩ : ByteArray)[j] := by
  have h : ∀ i (hi : i < (⟨#[65, 66, 67, 68, 69, 70, 71, 72, 73, 74, 75, 76, 77, 78, 79, 80, 81, 82, 83, 84, 85, 86, 87, 88, 89, 90, 97, 98, 99, 100, 101, 102, 103, 104, 105, 106, 107, 108, 109, 110, 111, 112, 113, 114, 115, 116, 117, 118, 119, 120, 121, 122, 48, 49, 50, 51, 52, 53, 54, 55, 56, 57, 45, 126]⟩ : ByteArray).size), ∀ j (hj : j < (⟨#[65, 66, 67, 68, 69, 70, 71, 72, 73, 74, 75, 76, 77, 78, 79, 80, 81, 82, 83, 84, 85, 86, 87, 88, 89, 90, 97, 98, 99, 100, 101, 102, 103, 104, 105, 106, 107, 108, 109, 110, 111, 112, 113, 114, 115, 116, 117, 118, 119, 120, 121, 122, 48, 49, 50, 51, 52, 53, 54, 55, 56, 57, 45, 126]⟩ : ByteArray).size), i < j → (⟨#[65, 66, 67, 68, 69, 70, 71, 72, 73, 74, 75, 76, 77, 78, 79, 80, 81, 82, 83, 84, 85, 86, 87, 88, 89, 90, 97, 98, 99, 100, 101, 102, 103, 104, 105, 106, 107, 108, 109, 110, 111, 112, 113, 114, 115, 116, 117, 118, 119, 120, 121, 122, 48, 49, 50, 51, 52, 53, 54, 55, 56, 57, 45, 126]⟩ : ByteArray)[i] ≠ (⟨#[65, 66, 67, 68, 69, 70, 71, 72, 73, 74, 75, 76, 77, 78, 79, 80, 81, 82, 83, 84, 85, 86, 87, 88, 89, 90, 97, 98, 99, 100, 101, 102, 103, 104, 105, 106, 107, 108, 109, 110, 111, 112, 113, 114, 115, 116, 117, 118, 119, 120, 121, 122, 48, 49, 50, 51, 52, 53, 54, 55, 56, 57, 45, 126]⟩ : ByteArray)[j] := by decide +kernel
  exact fun i j hi hj => h i hi j hj

set_option maxRecDepth 1000000 in
set_option maxHeartbeats 4000000 in
theorem gar64 (w : World) : Calls Tryz.prog 257 #[] w fun e w' => ∃ q, e = .returned (.pointer (some ⟨q, 0, none⟩)) ∧ Enc64 w' q 61 ∧ Below w.heap.size w w' := by
  have H := Lib.hid (new64 ⟨#[65, 66, 67, 68, 69, 70, 71, 72, 73, 74, 75, 76, 77, 78, 79, 80, 81, 82, 83, 84, 85, 86, 87, 88, 89, 90, 97, 98, 99, 100, 101, 102, 103, 104, 105, 106, 107, 108, 109, 110, 111, 112, 113, 114, 115, 116, 117, 118, 119, 120, 121, 122, 48, 49, 50, 51, 52, 53, 54, 55, 56, 57, 45, 126]⟩ rfl gar64_ch gar64_nd w)
  go_enter Tryz.func257, Tryz.ntmps257
  go_wp2_with (go_at_call 289; (with_reducible refine H.out.mono ?_); rintro e w2 ⟨q, rfl, h1, ⟨cs, h4, h5, h2⟩, h3⟩)
  go_ret
  exact ⟨q, rfl, h2, h3⟩

set_option maxRecDepth 1000000 in
theorem url64_ch : ∀ i (h : i < (⟨#[65, 66, 67, 68, 69, 70, 71, 72, 73, 74, 75, 76, 77, 78, 79, 80, 81, 82, 83, 84, 85, 86, 87, 88, 89, 90, 97, 98, 99, 100, 101, 102, 103, 104, 105, 106, 107, 108, 109, 110, 111, 112, 113, 114, 115, 116, 117, 118, 119, 120, 121, 122, 48, 49, 50, 51, 52, 53, 54, 55, 56, 57, 45, 95]⟩ : ByteArray).size), (⟨#[65, 66, 67, 68, 69, 70, 71, 72, 73, 74, 75, 76, 77, 78, 79, 80, 81, 82, 83, 84, 85, 86, 87, 88, 89, 90, 97, 98, 99, 100, 101, 102, 103, 104, 105, 106, 107, 108, 109, 110, 111, 112, 113, 114, 115, 116, 117, 118, 119, 120, 121, 122, 48, 49, 50, 51, 52, 53, 54, 55, 56, 57, 45, 95]⟩ : ByteArray)[i] ≠ 10 ∧ (⟨#[65, 66, 67, 68, 69, 70, 71, 72, 73, 74, 75, 76, 77, 78, 79, 80, 81, 82, 83, 84, 85, 86, 87, 88, 89, 90, 97, 98, 99, 100, 101, 102, 103, 104, 105, 106, 107, 108, 109, 110, 111, 112, 113, 114, 115, 116, 117, 118, 119, 120, 121, 122, 48, 49, 50, 51, 52, 53, 54, 55, 56, 57, 45, 95]⟩ : ByteArray)[i] ≠ 13 := by decide +kernel
set_option maxRecDepth 1000000 in
theorem url64_nd : ∀ i j (hi : i < (⟨#[65, 66, 67, 68, 69, 70, 71, 72, 73, 74, 75, 76, 77, 78, 79, 80, 81, 82, 83, 84, 85, 86, 87, 88, 89, 90, 97, 98, 99, 100, 101, 102, 103, 104, 105, 106, 107, 108, 109, 110, 111, 112, 113, 114, 115, 116, 117, 118, 119, 120, 121, 122, 48, 49, 50, 51, 52, 53, 54, 55, 56, 57, 45, 95]⟩ : ByteArray).size) (hj : j < (⟨#[65, 66, 67, 68, 69, 70, 71, 72, 73, 74, 75, 76, 77, 78, 79, 80, 81, 82, 83, 84, 85, 86, 87, 88, 89, 90, 97, 98, 99, 100, 101, 102, 103, 104, 105, 106, 107, 108, 109, 110, 111, 112, 113, 114, 115, 116, 117, 118, 119, 120, 121, 122, 48, 49, 50, 51, 52, 53, 54, 55, 56, 57, 45, 95]⟩ : ByteArray).size), i < j → (⟨#[65, 66, 67, 68, 69, 70, 71, 72, 73, 74, 75, 76, 77, 78, 79, 80, 81, 82, 83, 84, 85, 86, 87, 88, 89, 90, 97, 98, 99, 100, 101, 102, 103, 104, 105, 106, 107, 108, 109, 110, 111, 112, 113, 114, 115, 116, 117, 118, 119, 120, 121, 122, 48, 49, 50, 51, 52, 53, 54, 55, 56, 57, 45, 95]⟩ : ByteArray)[i] ≠ (⟨#[65, 66, 67, 68, 69, 70, 71, 72, 73, 74, 75, 76, 77, 78, 79, 80, 81, 82, 83, 84, 85, 86, 87, 88, 89, 90, 97, 98, 99, 100, 101, 102, 103, 104, 105, 106, 107, 108, 109, 110, 111, 112, 113, 114, 115, 116, 117, 118, 119, 120, 121, 122, 48, 49, 50, 51, 52, 53, 54, 55, 56, 57, 45, 95]⟩ : ByteArray)[j] := by
  have h : ∀ i (hi : i < (⟨#[65, 66, 67, 68, 69, 70, 71, 72, 73, 74, 75, 76, 77, 78, 79, 80, 81, 82, 83, 84, 85, 86, 87, 88, 89, 90, 97, 98, 99, 100, 101, 102, 103, 104, 105, 106, 107, 108, 109, 110, 111, 112, 113, 114, 115, 116, 117, 118, 119, 120, 121, 122, 48, 49, 50, 51, 52, 53, 54, 55, 56, 57, 45, 95]⟩ : ByteArray).size), ∀ j (hj : j < (⟨#[65, 66, 67, 68, 69, 70, 71, 72, 73, 74, 75, 76, 77, 78, 79, 80, 81, 82, 83, 84, 85, 86, 87, 88, 89, 90, 97, 98, 99, 100, 101, 102, 103, 104, 105, 106, 107, 108, 109, 110, 111, 112, 113, 114, 115, 116, 117, 118, 119, 120, 121, 122, 48, 49, 50, 51, 52, 53, 54, 55, 56, 57, 45, 95]⟩ : ByteArray).size), i < j → (⟨#[65, 66, 67, 68, 69, 70, 71, 72, 73, 74, 75, 76, 77, 78, 79, 80, 81, 82, 83, 84, 85, 86, 87, 88, 89, 90, 97, 98, 99, 100, 101, 102, 103, 104, 105, 106, 107, 108, 109, 110, 111, 112, 113, 114, 115, 116, 117, 118, 119, 120, 121, 122, 48, 49, 50, 51, 52, 53, 54, 55, 56, 57, 45, 95]⟩ : ByteArray)[i] ≠ (⟨#[65, 66, 67, 68, 69, 70, 71, 72, 73, 74, 75, 76, 77, 78, 79, 80, 81, 82, 83, 84, 85, 86, 87, 88, 89, 90, 97, 98, 99, 100, 101, 102, 103, 104, 105, 106, 107, 108, 109, 110, 111, 112, 113, 114, 115, 116, 117, 118, 119, 120, 121, 122, 48, 49, 50, 51, 52, 53, 54, 55, 56, 57, 45, 95]⟩ : ByteArray)[j] := by decide +kernel
  exact fun i j hi hj => h i hi j hj

set_option maxRecDepth 1000000 in
set_option maxHeartbeats 8000000 in
theorem zz64 (w : World) : Calls Tryz.prog 306 #[.bool false, .bool true] w fun e w' => ∃ q, e = .returned (.pointer (some ⟨q, 0, none⟩)) ∧ Enc64 w' q (-1) ∧ Below w.heap.size w w' := by
  have H := Lib.hid (new64 ⟨#[65, 66, 67, 68, 69, 70, 71, 72, 73, 74, 75, 76, 77, 78, 79, 80, 81, 82, 83, 84, 85, 86, 87, 88, 89, 90, 97, 98, 99, 100, 101, 102, 103, 104, 105, 106, 107, 108, 109, 110, 111, 112, 113, 114, 115, 116, 117, 118, 119, 120, 121, 122, 48, 49, 50, 51, 52, 53, 54, 55, 56, 57, 45, 95]⟩ rfl url64_ch url64_nd w)
  have HI : (Tryz.prog.info? 271).map (·.size) = some 322 := by kernel_rfl
  have HP : Hid (∀ (w2 : World) (q : Nat) (cs : List Value), cs.length = 322 → w2.rangeAt q 0 cs → Enc64 w2 q 61 → Below w.heap.size w w2 → Calls Tryz.prog 364 #[.agg cs.toArray, .int .i32 (-1)] w2 fun e w' => ∃ q, e = .returned (.pointer (some ⟨q, 0, none⟩)) ∧ Enc64 w' q (-1) ∧ Below w.heap.size w w') := Lib.hid fun w2 q cs hcs hra he hb => by
    obtain ⟨_, _, E, hE, hat⟩ := he
    refine (pad364 cs hcs E hE (fun j hj => ?_) w2).mono ?_
    · have hj2 : j < cs.length := by omega
      have h1 := hra j cs[j] (List.getElem?_eq_getElem hj2)
      rw [hat j hj] at h1
      rw [List.getElem?_eq_getElem hj2, ← h1]
    · rintro e w' ⟨q', rfl, h1, h2⟩
      exact ⟨q', rfl, h1, hb.trans (h2.mono hb.size)⟩
  go_enter Tryz.func306, Tryz.ntmps306
  go_wp2_with (first
    | (go_at_call 289; (with_reducible refine H.out.mono ?_); rintro e w2 ⟨q, rfl, h1, ⟨cs, hcs, hra, hE⟩, hb⟩)
    | (refine wpList_load_mid rfl 271 (.tmp 12) rfl q 0 rfl cs _ hra Tryz.underlying271 rfl (by rw [hcs]; exact HI) ?_)
    | (go_at_call 364; (with_reducible refine (HP.out _ _ _ hcs hra hE hb).mono ?_); rintro e w3 ⟨q3, rfl, h3, hb3⟩))
  go_ret
  exact ⟨q3, rfl, h3, hb3⟩

set_option maxRecDepth 100000 in
set_option maxHeartbeats 8000000 in
theorem bts221Y (l : List UInt8) (hl : 386 ≤ l.length) (hlim : l.length ≤ 1000000) : BtsY 221 l := by
  intro w g o cp hcp he hc
  have hgl : g < w.heap.size := At.lt (l := l) hc (by omega)
  have HV := Lib.hid (val222Y l hl w g o cp hcp he hc)
  have HE : Hid (∀ w2 q, Below w.heap.size w w2 → Enc64 w2 q 61 → Calls Tryz.prog 259 #[.pointer (some ⟨q, 0, none⟩), .slice (some ⟨g, o, none⟩) l.length cp] w2 fun e w' => ∃ s, e = .returned (.string s) ∧ s.size ≤ 2000000 ∧ Below w.heap.size w w') := Lib.hid fun w2 q hb hq => by
    refine (encStr64 61 (Or.inl rfl) l (by omega) (by omega) q g o cp w2 hq (At.below (l := l) hc hb hgl) (by omega)).mono ?_
    rintro e w' ⟨s, rfl, hs, hb2⟩
    exact ⟨s, rfl, hs, hb.trans (hb2.mono hb.size)⟩
  have HN : Hid (∀ w2, Below w.heap.size w w2 → Calls Tryz.prog 257 #[] w2 fun e w' => ∃ q, e = .returned (.pointer (some ⟨q, 0, none⟩)) ∧ Enc64 w' q 61 ∧ Below w.heap.size w w') := Lib.hid fun w2 hb => by
    refine (gar64 w2).mono ?_
    rintro e w' ⟨q, rfl, hq, hb2⟩
    exact ⟨q, rfl, hq, hb.trans (hb2.mono hb.size)⟩
  generalize l.length = n at *
  clear hc he hgl
  go_enter Tryz.func221, Tryz.ntmps221
  go_wp2_with (first
    | (go_at_call 222; (with_reducible refine HV.out.mono ?_); rintro e w2 ⟨rfl, hb2⟩)
    | (go_at_call 257; (with_reducible refine (HN.out _ hb2).mono ?_); rintro e w3 ⟨q, rfl, hq3, hb3⟩)
    | (go_at_call 259; (with_reducible refine (HE.out _ _ hb3 hq3).mono ?_); rintro e w4 ⟨s4, rfl, hs4, hb4⟩))
  go_ret2
  exact ⟨_, rfl, hb4⟩

set_option maxRecDepth 100000 in
set_option maxHeartbeats 8000000 in
theorem bts221N (l : List UInt8) (hl : ¬ 386 ≤ l.length) : BtsN 221 l := by
  intro w g o cp hcp he hc
  have HV := Lib.hid (val222N l (by omega) w g o cp hcp he hc)
  generalize l.length = n at *
  clear hc he
  go_enter Tryz.func221, Tryz.ntmps221
  go_wp2_with (go_at_call 222; (with_reducible refine HV.out.mono ?_); rintro e w2 ⟨t, p, rfl, hb2⟩)
  go_ret2
  exact ⟨_, t, p, rfl, hb2⟩

set_option maxRecDepth 100000 in
set_option maxHeartbeats 8000000 in
theorem mb263 (l : List UInt8) (hl : 1 ≤ l.length) (hlim : l.length ≤ 1000000) (g o cp : Nat) (w : World) (hc : At w g o l) (hcp : l.length ≤ cp) :
    Calls Tryz.prog 263 #[.int .i64 117, .slice (some ⟨g, o, none⟩) l.length cp] w fun e w' => ∃ s, e = .returned (.tuple #[.string s, .nilIface]) ∧ Below w.heap.size w w' := by
  have hgl : g < w.heap.size := At.lt (l := l) hc (by omega)
  have HE : Hid (∀ w2 q, Below w.heap.size w w2 → Enc64 w2 q (-1) → Calls Tryz.prog 259 #[.pointer (some ⟨q, 0, none⟩), .slice (some ⟨g, o, none⟩) l.length cp] w2 fun e w' => ∃ s, e = .returned (.string s) ∧ s.size ≤ 2000000 ∧ Below w.heap.size w w') := Lib.hid fun w2 q hb hq => by
    refine (encStr64 (-1) (Or.inr rfl) l (by omega) (by omega) q g o cp w2 hq (At.below (l := l) hc hb hgl) (by omega)).mono ?_
    rintro e w' ⟨s, rfl, hs, hb2⟩
    exact ⟨s, rfl, hs, hb.trans (hb2.mono hb.size)⟩
  have HN := Lib.hid (zz64 w)
  generalize l.length = n at *
  clear hc hgl
  go_enter Tryz.func263, Tryz.ntmps263
  go_wp2_with (first
    | (go_at_call 306; (with_reducible refine HN.out.mono ?_); rintro e w3 ⟨q, rfl, hq3, hb3⟩)
    | (go_at_call 259; (with_reducible refine (HE.out _ _ hb3 hq3).mono ?_); rintro e w4 ⟨s4, rfl, hs4, hb4⟩; have hcat : ((⟨#[117]⟩ : ByteArray).size : Int) + (s4.size : Int) ≤ 9223372036854775807 := (by show (1 : Int) + _ ≤ _; omega)))
  go_ret2
  exact ⟨_, rfl, hb4⟩

set_option maxRecDepth 100000 in
set_option maxHeartbeats 4000000 in
theorem bts227Y (l : List UInt8) (hl : 1 ≤ l.length) (hlim : l.length ≤ 1000000) : BtsY 227 l := by
  intro w g o cp hcp he hc
  have H := Lib.hid (mb263 l hl hlim g o cp w hc hcp)
  generalize l.length = n at *
  clear hc he
  go_enter Tryz.func227, Tryz.ntmps227
  go_wp2_with (go_at_call 263; (with_reducible refine H.out.mono ?_); rintro e w2 ⟨s, rfl, hb2⟩)
  go_ret2
  exact ⟨_, rfl, hb2⟩
end Go.Proofs.YtnpcmmjdojdmnaaGreatDoor
