/- base32: Encode (288). base32: Encode (288), the walk. base32: EncodedLen (287), EncodeToString (256); zzLower (255). base32: NewEncoding (284). -/
import Derived.Test.YtnpcmmjdojdmnaaGreatDoorSi
import Derived.Deep.MidRow
import Derived.Lib.BufferWrite
import Derived.Lib.SmallJoins
import Derived.BigQuiet
namespace Go.Proofs.YtnpcmmjdojdmnaaGreatDoor
open Go Go.RowKit Go.Sort

theorem and31 (x : Int) : ∃ i : Nat, i < 32 ∧ bits .and .u32 x 31 = (i : Int) := by
  refine ⟨(BitVec.ofInt 32 x &&& 31#32).toNat, ?_, ?_⟩
  · rw [BitVec.toNat_and]
    exact Nat.lt_of_le_of_lt Nat.and_le_right (by decide)
  · have h : (BitVec.ofInt 32 x &&& 31#32).toNat < 32 := by
      rw [BitVec.toNat_and]
      exact Nat.lt_of_le_of_lt Nat.and_le_right (by decide)
    show IntKind.u32.wrap (((BitVec.ofInt 32 x &&& BitVec.ofInt 32 31).toNat : Nat) : Int) = _
    have e : BitVec.ofInt 32 31 = 31#32 := by decide
    rw [e, IntKind.wrap_u32]
    omega

/-- The last five bits. -/
def i31 (x : Int) : Nat := (bits .and .u32 x 31).toNat
theorem i31_eq (x : Int) : bits .and .u32 x 31 = ((i31 x : Nat) : Int) := by
  obtain ⟨i, hi, h⟩ := and31 x
  rw [i31, h]; rfl
theorem i31_lt (x : Int) : i31 x < 32 := by
  obtain ⟨i, hi, h⟩ := and31 x
  rw [i31, h]
  exact hi
theorem i31_ltI (x : Int) : (((i31 x : Nat) : Int) < 32) = True := by
  have := i31_lt x
  simp; omega

/-- Bytes that may be written. -/
def Bys (w : World) (g N : Nat) : Prop := ∀ j, j < N → ∃ b : UInt8, w.cell? ⟨g, j, none⟩ = some (.int .u8 b.toNat) ∧ w.frozen? ⟨g, j, none⟩ = false
theorem Bys.set {w : World} {g N : Nat} (h : Bys w g N) (i : Nat) (b : UInt8) : Bys (w.setCell ⟨g, i, none⟩ (.int .u8 b.toNat)) g N := fun j hj => by
  obtain ⟨x, h1, h2⟩ := h j hj
  by_cases hij : j = i
  · subst hij
    exact ⟨b, World.cell?_setCell_same _ _ _ h1, by rw [World.frozen?_setCell]; exact h2⟩
  · exact ⟨x, by rw [World.cell?_setCell_other _ _ _ _ (by intro e; injection e with e1 e2; exact hij e2.symm)]; exact h1, by rw [World.frozen?_setCell]; exact h2⟩

theorem Bys.set61 {w : World} {g N : Nat} (h : Bys w g N) (i : Nat) : Bys (w.setCell ⟨g, i, none⟩ (.int .u8 61)) g N := h.set i 61
theorem Bys.drewN {w : World} {g N : Nat} (h : Bys w g N) (n : Nat) : Bys (w.drewN n) g N := fun j hj => by
  obtain ⟨x, h1, h2⟩ := h j hj
  exact ⟨x, by rw [World.cell?_drewN]; exact h1, by rw [World.frozen?_drewN]; exact h2⟩

theorem at_tail {w : World} {g o : Nat} {z : List UInt8} (h : At w g o z) (k c : Nat) (hk : k ≤ z.length) (hc : z.length ≤ c) : At w g (if c = k then o else o + k) (z.drop k) := fun j hj => by
  rw [List.length_drop] at hj
  rw [if_neg (by omega)]
  have := h (k + j) (by omega)
  rw [show o + k + j = o + (k + j) by omega, this, List.getElem_drop]

theorem bset {B : Nat} {a w : World} (q : Nat) (h : Below B a w) (hq : B ≤ q) (o : Nat) (v : Value) : Below B a (w.setCell ⟨q, o, none⟩ v) := h.setCell hq v

theorem slice_tail (g o n c k : Nat) (hk : k ≤ n) (hn : n ≤ c) : ∃ o' c', (∀ W, (Instr.sliceAt 22 (.slice (some ⟨g, o, none⟩) n c) (some (.int .i64 (k : Int))) none none).run Tryz.prog W = .ok (.slice (some ⟨g, o', none⟩) (n - k) c') W) ∧ n - k ≤ c' ∧ (o' = o + k ∨ (n - k = 0 ∧ o' = o)) := by
  have hu : Tryz.prog.underlying 22 = some (.slice (Tryz.prog.elem 22)) := by simp [Program.elem, Tryz.underlying22]
  by_cases hc : c = k
  · refine ⟨o, 0, fun W => ?_, by omega, Or.inr ⟨by omega, rfl⟩⟩
    rw [run_sliceAt_slice W 22 _ _ _ _ hu, run_slice_l W 22 _ _ _ hu .i64 (k : Int) (by omega) (by omega)]
    simp [go_sem, Go.sliced, Program.elem, Tryz.underlying22]
    omega
  · refine ⟨o + k, c - k, fun W => ?_, by omega, Or.inl rfl⟩
    rw [run_sliceAt_slice W 22 _ _ _ _ hu, run_slice_l W 22 _ _ _ hu .i64 (k : Int) (by omega) (by omega)]
    simp [go_sem, Go.sliced, Program.elem, Tryz.underlying22]
    omega
end Go.Proofs.YtnpcmmjdojdmnaaGreatDoor
namespace Go.Proofs.YtnpcmmjdojdmnaaGreatDoor
open Go Go.RowKit Go.Sort

set_option maxRecDepth 100000 in
set_option maxHeartbeats 16000000 in
theorem enc32' (f : Int → Nat) (hf : ∀ x, bits .and .u32 x 31 = ((f x : Nat) : Int)) (hf2 : ∀ x, f x < 32) (ge gd gs os n N cps cpd : Nat) (E l : List UInt8) (w : World) (hE : E.length = 32) (hat : At w ge 0 E) (hpad : w.cell? ⟨ge, 288, none⟩ = some (.int .i32 61)) (hl : l.length = n) (hs : At w gs os l) (hd : Bys w gd N) (hge : ge < gd) (hgs : gs < gd) (_hgd : gd < w.heap.size) (hN : N = (n + 4) / 5 * 8) (hcp : n ≤ cps) (hcd : N ≤ cpd) (hlim : n ≤ 1000000) (hn : 1 ≤ n) :
    Calls Tryz.prog 288 #[.pointer (some ⟨ge, 0, none⟩), .slice (some ⟨gd, 0, none⟩) N cpd, .slice (some ⟨gs, os, none⟩) n cps] w fun e w' => e = .returned (.tuple #[]) ∧ Bys w' gd N ∧ Below gd w w' := by
  have e0 : ((n : Int) == 0) = false := by
    have : (n : Int) ≠ 0 := by omega
    simpa using this
  have HR : Hid (w.rangeAt ge 0 (byteVals E)) := Lib.hid (fun j v hj => by
    obtain ⟨hj', rfl⟩ := byteVals_get hj
    exact hat j hj')
  have HI : Hid ((Tryz.prog.info? 263).map (·.size) = some (byteVals E).length) := Lib.hid (by rw [byteVals_length, hE]; kernel_rfl)
  have HALL := Lib.hid (And.intro hE (And.intro hat (And.intro hpad (And.intro hl (And.intro hs hd)))))
  have HN := Lib.hid hN
  clear hE hat hpad hl hs hd hN
  go_enter Tryz.func288, Tryz.ntmps288
  go_wp2_with (refine wpList_load_mid rfl 263 (.tmp 16) rfl ge 0 rfl (byteVals E) _ HR.out Tryz.underlying263 rfl HI.out ?_)
  go_simp
  clear e0
  go_loopw [1, 2] (fun v1 v2 wr => ∃ (k o1 c1 o2 c2 : Nat), 5 * k ≤ n ∧ v1 = .slice (some ⟨gd, o1, none⟩) (N - 8 * k) c1 ∧ N - 8 * k ≤ c1 ∧ o1 + (N - 8 * k) ≤ N ∧ v2 = .slice (some ⟨gs, o2, none⟩) (n - 5 * k) c2 ∧ n - 5 * k ≤ c2 ∧ Hid (At wr gs o2 (l.drop (5 * k))) ∧ Hid (Bys wr gd N) ∧ Below gd w wr) (fun _ v2 _ => match v2 with | .slice _ n _ => n | _ => 0)
  case atStart =>
    obtain ⟨hE, hat, hpad, hl, hs, hd⟩ := HALL.out
    exact ⟨0, 0, cpd, os, cps, by omega, rfl, hcd, by omega, rfl, hcp, Lib.hid (by simpa using hs), Lib.hid hd, Below.refl _ _⟩
  case round =>
    obtain ⟨k, o1, c1, o2, c2, hk, rfl, hc1, ho1, rfl, hc2, hs, hd, hbl⟩ := hrel
    obtain ⟨hE, hat, hpad, hl, _, _⟩ := HALL.out
    obtain ⟨m, hm⟩ : ∃ m, m = n - 5 * k := ⟨_, rfl⟩
    obtain ⟨Nr, hNr⟩ : ∃ Nr, Nr = N - 8 * k := ⟨_, rfl⟩
    have hmN : Nr = (m + 4) / 5 * 8 := by have := HN.out; omega
    have hlen : (l.drop (5 * k)).length = m := by rw [List.length_drop, hl, hm]
    rw [← hm] at hc2
    rw [← hNr] at hc1 ho1
    have hatr : At wr ge 0 E := hat.below hbl hge
    have hilt : ∀ x, (((f x : Nat) : Int) < 32) = True := fun x => by have := hf2 x; simp; omega
    have hic : ∀ x, wr.cell? ⟨ge, f x, none⟩ = some (.int .u8 (E.getD (f x) 0).toNat) := fun x => by
      have h := hatr (f x) (by rw [hE]; exact hf2 x)
      rw [Nat.zero_add] at h
      rw [h]
      simp [List.getD, hE, hf2 x]
    have g1 : (ge = gd) = False := eq_false (by omega)
    have g2 : (gs = gd) = False := eq_false (by omega)
    have hpr : wr.cell? ⟨ge, 288, none⟩ = some (.int .i32 61) := (hbl.cell (p := ⟨ge, 288, none⟩) hge).trans hpad
    by_cases h5 : 5 ≤ m
    · have e5 : decide (5 ≤ (m : Int)) = true := by simp; omega
      have hs' := hs.out
      obtain ⟨x0, hx0⟩ : ∃ x, x = (l.drop (5 * k))[0] := ⟨_, rfl⟩
      have s0 : wr.cell? ⟨gs, o2, none⟩ = some (.int .u8 x0.toNat) := by rw [hx0]; exact hs' 0 (by omega)
      obtain ⟨x1, hx1⟩ : ∃ x, x = (l.drop (5 * k))[1] := ⟨_, rfl⟩
      have s1 : wr.cell? ⟨gs, o2 + 1, none⟩ = some (.int .u8 x1.toNat) := by rw [hx1]; exact hs' 1 (by omega)
      obtain ⟨x2, hx2⟩ : ∃ x, x = (l.drop (5 * k))[2] := ⟨_, rfl⟩
      have s2 : wr.cell? ⟨gs, o2 + 2, none⟩ = some (.int .u8 x2.toNat) := by rw [hx2]; exact hs' 2 (by omega)
      obtain ⟨x3, hx3⟩ : ∃ x, x = (l.drop (5 * k))[3] := ⟨_, rfl⟩
      have s3 : wr.cell? ⟨gs, o2 + 3, none⟩ = some (.int .u8 x3.toNat) := by rw [hx3]; exact hs' 3 (by omega)
      obtain ⟨x4, hx4⟩ : ∃ x, x = (l.drop (5 * k))[4] := ⟨_, rfl⟩
      have s4 : wr.cell? ⟨gs, o2 + 4, none⟩ = some (.int .u8 x4.toNat) := by rw [hx4]; exact hs' 4 (by omega)
      obtain ⟨y0, d0, f0⟩ := hd.out (o1) (by omega)
      obtain ⟨y1, d1, f1⟩ := hd.out (o1 + 1) (by omega)
      obtain ⟨y2, d2, f2⟩ := hd.out (o1 + 2) (by omega)
      obtain ⟨y3, d3, f3⟩ := hd.out (o1 + 3) (by omega)
      obtain ⟨y4, d4, f4⟩ := hd.out (o1 + 4) (by omega)
      obtain ⟨y5, d5, f5⟩ := hd.out (o1 + 5) (by omega)
      obtain ⟨y6, d6, f6⟩ := hd.out (o1 + 6) (by omega)
      obtain ⟨y7, d7, f7⟩ := hd.out (o1 + 7) (by omega)
      have HS := Lib.hid (And.intro hm (And.intro hNr hmN))
      have HA5 : Hid (At wr gs (if c2 = 5 then o2 else o2 + 5) (l.drop (5 * (k + 1)))) := Lib.hid (by
        have hd5 : l.drop (5 * (k + 1)) = (l.drop (5 * k)).drop 5 := by rw [List.drop_drop]; congr 1
        rw [hd5]
        exact at_tail hs.out 5 c2 (by rw [hlen]; exact h5) (by rw [hlen]; exact hc2))
      have HBY := Lib.hid hd.out
      have hm8 : 8 ≤ Nr := by omega
      clear hx0 hx1 hx2 hx3 hx4 hs' hlen hatr hat hE hpad hl hs hd
      rw [← hm, ← hNr]
      clear hm hNr hmN
      go_wp2
      go_quiet (fail)
      generalize bits BinOp.or IntKind.u32 _ _ = H
      go_wp2
      obtain ⟨hm, hNr, hmN⟩ := HS.out
      have hN8 : N - 8 * (k + 1) = Nr - 8 := by omega
      have hm5 : n - 5 * (k + 1) = m - 5 := by omega
      have hB8 := fun (v0 v1 v2 v3 v4 v5 v6 v7 : Value) => bset gd (bset gd (bset gd (bset gd (bset gd (bset gd (bset gd (bset gd (below_drewN (Below.refl gd wr) nq) (Nat.le_refl gd) (o1) v0) (Nat.le_refl gd) (o1 + 1) v1) (Nat.le_refl gd) (o1 + 2) v2) (Nat.le_refl gd) (o1 + 3) v3) (Nat.le_refl gd) (o1 + 4) v4) (Nat.le_refl gd) (o1 + 5) v5) (Nat.le_refl gd) (o1 + 6) v6) (Nat.le_refl gd) (o1 + 7) v7
      refine ⟨⟨k + 1, (if c1 = 8 then o1 else o1 + 8), c1 - 8, (if c2 = 5 then o2 else o2 + 5), c2 - 5, by omega, ?_, by omega, ?_, ?_, by omega, Lib.hid (HA5.out.below (hB8 _ _ _ _ _ _ _ _) hgs), Lib.hid ((((((((((HBY.out.drewN nq).set o1 _).set (o1 + 1) _).set (o1 + 2) _).set (o1 + 3) _).set (o1 + 4) _).set (o1 + 5) _).set (o1 + 6) _).set (o1 + 7) _)), hbl.trans (hB8 _ _ _ _ _ _ _ _)⟩, ?_⟩
      · rw [hN8]; split <;> rfl
      · split <;> omega
      · rw [hm5]; split <;> rfl
      · show m - 5 < m
        omega
    · have e5 : decide (5 ≤ (m : Int)) = false := by simp; omega
      have HS := Lib.hid (And.intro hm (And.intro hNr hmN))
      have HBY := Lib.hid hd.out
      have hs' := hs.out
      have hcs : m = 0 ∨ m = 1 ∨ m = 2 ∨ m = 3 ∨ m = 4 := by omega
      rw [← hm, ← hNr]
      have hN1 : 1 ≤ m → Nr = 8 := by omega
      clear hatr hat hE hpad hl hs
      rcases hcs with h | h | h | h | h
      · have hz : ((m : Int) == 0) = true := by rw [h]; rfl
        clear hm hNr hmN hs' hd h5 h
        go_wp2
        refine ⟨rfl, .tuple #[], by simp [results, Tryz.results288], rfl, HBY.out, hbl⟩
      · have hN8 := hN1 (by omega)
        rw [hN8] at ho1 hc1 ⊢
        obtain ⟨x0, hx0⟩ : ∃ x, x = (l.drop (5 * k))[0]'(by omega) := ⟨_, rfl⟩
        have s0 : wr.cell? ⟨gs, o2, none⟩ = some (.int .u8 x0.toNat) := by rw [hx0]; exact hs' 0 (by omega)
        obtain ⟨y0, d0, f0⟩ := hd.out (o1) (by omega)
        obtain ⟨y1, d1, f1⟩ := hd.out (o1 + 1) (by omega)
        obtain ⟨y2, d2, f2⟩ := hd.out (o1 + 2) (by omega)
        obtain ⟨y3, d3, f3⟩ := hd.out (o1 + 3) (by omega)
        obtain ⟨y4, d4, f4⟩ := hd.out (o1 + 4) (by omega)
        obtain ⟨y5, d5, f5⟩ := hd.out (o1 + 5) (by omega)
        obtain ⟨y6, d6, f6⟩ := hd.out (o1 + 6) (by omega)
        obtain ⟨y7, d7, f7⟩ := hd.out (o1 + 7) (by omega)
        clear hx0
        clear hs' hlen hm hNr hmN hd h5 e5 hN1 hN8
        subst h
        go_wp2
        refine wp_loop_rounds 7 ?_
        rw [rounds_succ]
        go_wp2
        rw [rounds_succ]
        go_wp2
        rw [rounds_succ]
        go_wp2
        rw [rounds_succ]
        go_wp2
        rw [rounds_succ]
        go_wp2
        rw [rounds_succ]
        go_wp2
        rw [rounds_succ]
        go_wp2
        refine ⟨rfl, .tuple #[], by simp [results, Tryz.results288], rfl, ?_, ?_⟩
        · exact ((((((((HBY.out).set (o1 + 1) _).set o1 _).set61 (o1 + 2)).set61 (o1 + 3)).set61 (o1 + 4)).set61 (o1 + 5)).set61 (o1 + 6)).set61 (o1 + 7)
        · exact hbl.trans (bset gd (bset gd (bset gd (bset gd (bset gd (bset gd (bset gd (bset gd (Below.refl gd wr) (Nat.le_refl gd) (o1 + 1) _) (Nat.le_refl gd) o1 _) (Nat.le_refl gd) (o1 + 2) _) (Nat.le_refl gd) (o1 + 3) _) (Nat.le_refl gd) (o1 + 4) _) (Nat.le_refl gd) (o1 + 5) _) (Nat.le_refl gd) (o1 + 6) _) (Nat.le_refl gd) (o1 + 7) _)
      · have hN8 := hN1 (by omega)
        rw [hN8] at ho1 hc1 ⊢
        obtain ⟨x0, hx0⟩ : ∃ x, x = (l.drop (5 * k))[0]'(by omega) := ⟨_, rfl⟩
        have s0 : wr.cell? ⟨gs, o2, none⟩ = some (.int .u8 x0.toNat) := by rw [hx0]; exact hs' 0 (by omega)
        obtain ⟨x1, hx1⟩ : ∃ x, x = (l.drop (5 * k))[1]'(by omega) := ⟨_, rfl⟩
        have s1 : wr.cell? ⟨gs, o2 + 1, none⟩ = some (.int .u8 x1.toNat) := by rw [hx1]; exact hs' 1 (by omega)
        obtain ⟨y0, d0, f0⟩ := hd.out (o1) (by omega)
        obtain ⟨y1, d1, f1⟩ := hd.out (o1 + 1) (by omega)
        obtain ⟨y2, d2, f2⟩ := hd.out (o1 + 2) (by omega)
        obtain ⟨y3, d3, f3⟩ := hd.out (o1 + 3) (by omega)
        obtain ⟨y4, d4, f4⟩ := hd.out (o1 + 4) (by omega)
        obtain ⟨y5, d5, f5⟩ := hd.out (o1 + 5) (by omega)
        obtain ⟨y6, d6, f6⟩ := hd.out (o1 + 6) (by omega)
        obtain ⟨y7, d7, f7⟩ := hd.out (o1 + 7) (by omega)
        clear hx0 hx1
        clear hs' hlen hm hNr hmN hd h5 e5 hN1 hN8
        subst h
        go_wp2
        refine wp_loop_rounds 5 ?_
        rw [rounds_succ]
        go_wp2
        rw [rounds_succ]
        go_wp2
        rw [rounds_succ]
        go_wp2
        rw [rounds_succ]
        go_wp2
        rw [rounds_succ]
        go_wp2
        refine ⟨rfl, .tuple #[], by simp [results, Tryz.results288], rfl, ?_, ?_⟩
        · exact ((((((((HBY.out).set (o1 + 3) _).set (o1 + 2) _).set (o1 + 1) _).set o1 _).set61 (o1 + 4)).set61 (o1 + 5)).set61 (o1 + 6)).set61 (o1 + 7)
        · exact hbl.trans (bset gd (bset gd (bset gd (bset gd (bset gd (bset gd (bset gd (bset gd (Below.refl gd wr) (Nat.le_refl gd) (o1 + 3) _) (Nat.le_refl gd) (o1 + 2) _) (Nat.le_refl gd) (o1 + 1) _) (Nat.le_refl gd) o1 _) (Nat.le_refl gd) (o1 + 4) _) (Nat.le_refl gd) (o1 + 5) _) (Nat.le_refl gd) (o1 + 6) _) (Nat.le_refl gd) (o1 + 7) _)
      · have hN8 := hN1 (by omega)
        rw [hN8] at ho1 hc1 ⊢
        obtain ⟨x0, hx0⟩ : ∃ x, x = (l.drop (5 * k))[0]'(by omega) := ⟨_, rfl⟩
        have s0 : wr.cell? ⟨gs, o2, none⟩ = some (.int .u8 x0.toNat) := by rw [hx0]; exact hs' 0 (by omega)
        obtain ⟨x1, hx1⟩ : ∃ x, x = (l.drop (5 * k))[1]'(by omega) := ⟨_, rfl⟩
        have s1 : wr.cell? ⟨gs, o2 + 1, none⟩ = some (.int .u8 x1.toNat) := by rw [hx1]; exact hs' 1 (by omega)
        obtain ⟨x2, hx2⟩ : ∃ x, x = (l.drop (5 * k))[2]'(by omega) := ⟨_, rfl⟩
        have s2 : wr.cell? ⟨gs, o2 + 2, none⟩ = some (.int .u8 x2.toNat) := by rw [hx2]; exact hs' 2 (by omega)
        obtain ⟨y0, d0, f0⟩ := hd.out (o1) (by omega)
        obtain ⟨y1, d1, f1⟩ := hd.out (o1 + 1) (by omega)
        obtain ⟨y2, d2, f2⟩ := hd.out (o1 + 2) (by omega)
        obtain ⟨y3, d3, f3⟩ := hd.out (o1 + 3) (by omega)
        obtain ⟨y4, d4, f4⟩ := hd.out (o1 + 4) (by omega)
        obtain ⟨y5, d5, f5⟩ := hd.out (o1 + 5) (by omega)
        obtain ⟨y6, d6, f6⟩ := hd.out (o1 + 6) (by omega)
        obtain ⟨y7, d7, f7⟩ := hd.out (o1 + 7) (by omega)
        clear hx0 hx1 hx2
        clear hs' hlen hm hNr hmN hd h5 e5 hN1 hN8
        subst h
        go_wp2
        refine wp_loop_rounds 4 ?_
        rw [rounds_succ]
        go_wp2
        rw [rounds_succ]
        go_wp2
        rw [rounds_succ]
        go_wp2
        rw [rounds_succ]
        go_wp2
        refine ⟨rfl, .tuple #[], by simp [results, Tryz.results288], rfl, ?_, ?_⟩
        · exact ((((((((HBY.out).set (o1 + 4) _).set (o1 + 3) _).set (o1 + 2) _).set (o1 + 1) _).set o1 _).set61 (o1 + 5)).set61 (o1 + 6)).set61 (o1 + 7)
        · exact hbl.trans (bset gd (bset gd (bset gd (bset gd (bset gd (bset gd (bset gd (bset gd (Below.refl gd wr) (Nat.le_refl gd) (o1 + 4) _) (Nat.le_refl gd) (o1 + 3) _) (Nat.le_refl gd) (o1 + 2) _) (Nat.le_refl gd) (o1 + 1) _) (Nat.le_refl gd) o1 _) (Nat.le_refl gd) (o1 + 5) _) (Nat.le_refl gd) (o1 + 6) _) (Nat.le_refl gd) (o1 + 7) _)
      · have hN8 := hN1 (by omega)
        rw [hN8] at ho1 hc1 ⊢
        obtain ⟨x0, hx0⟩ : ∃ x, x = (l.drop (5 * k))[0]'(by omega) := ⟨_, rfl⟩
        have s0 : wr.cell? ⟨gs, o2, none⟩ = some (.int .u8 x0.toNat) := by rw [hx0]; exact hs' 0 (by omega)
        obtain ⟨x1, hx1⟩ : ∃ x, x = (l.drop (5 * k))[1]'(by omega) := ⟨_, rfl⟩
        have s1 : wr.cell? ⟨gs, o2 + 1, none⟩ = some (.int .u8 x1.toNat) := by rw [hx1]; exact hs' 1 (by omega)
        obtain ⟨x2, hx2⟩ : ∃ x, x = (l.drop (5 * k))[2]'(by omega) := ⟨_, rfl⟩
        have s2 : wr.cell? ⟨gs, o2 + 2, none⟩ = some (.int .u8 x2.toNat) := by rw [hx2]; exact hs' 2 (by omega)
        obtain ⟨x3, hx3⟩ : ∃ x, x = (l.drop (5 * k))[3]'(by omega) := ⟨_, rfl⟩
        have s3 : wr.cell? ⟨gs, o2 + 3, none⟩ = some (.int .u8 x3.toNat) := by rw [hx3]; exact hs' 3 (by omega)
        obtain ⟨y0, d0, f0⟩ := hd.out (o1) (by omega)
        obtain ⟨y1, d1, f1⟩ := hd.out (o1 + 1) (by omega)
        obtain ⟨y2, d2, f2⟩ := hd.out (o1 + 2) (by omega)
        obtain ⟨y3, d3, f3⟩ := hd.out (o1 + 3) (by omega)
        obtain ⟨y4, d4, f4⟩ := hd.out (o1 + 4) (by omega)
        obtain ⟨y5, d5, f5⟩ := hd.out (o1 + 5) (by omega)
        obtain ⟨y6, d6, f6⟩ := hd.out (o1 + 6) (by omega)
        obtain ⟨y7, d7, f7⟩ := hd.out (o1 + 7) (by omega)
        clear hx0 hx1 hx2 hx3
        clear hs' hlen hm hNr hmN hd h5 e5 hN1 hN8
        subst h
        go_wp2
        refine wp_loop_rounds 2 ?_
        rw [rounds_succ]
        go_wp2
        rw [rounds_succ]
        go_wp2
        refine ⟨rfl, .tuple #[], by simp [results, Tryz.results288], rfl, ?_, ?_⟩
        · exact ((((((((HBY.out).set (o1 + 6) _).set (o1 + 5) _).set (o1 + 4) _).set (o1 + 3) _).set (o1 + 2) _).set (o1 + 1) _).set o1 _).set61 (o1 + 7)
        · exact hbl.trans (bset gd (bset gd (bset gd (bset gd (bset gd (bset gd (bset gd (bset gd (Below.refl gd wr) (Nat.le_refl gd) (o1 + 6) _) (Nat.le_refl gd) (o1 + 5) _) (Nat.le_refl gd) (o1 + 4) _) (Nat.le_refl gd) (o1 + 3) _) (Nat.le_refl gd) (o1 + 2) _) (Nat.le_refl gd) (o1 + 1) _) (Nat.le_refl gd) o1 _) (Nat.le_refl gd) (o1 + 7) _)

theorem enc32 (ge gd gs os n N cps cpd : Nat) (E l : List UInt8) (w : World) (hE : E.length = 32) (hat : At w ge 0 E) (hpad : w.cell? ⟨ge, 288, none⟩ = some (.int .i32 61)) (hl : l.length = n) (hs : At w gs os l) (hd : Bys w gd N) (hge : ge < gd) (hgs : gs < gd) (hgd : gd < w.heap.size) (hN : N = (n + 4) / 5 * 8) (hcp : n ≤ cps) (hcd : N ≤ cpd) (hlim : n ≤ 1000000) (hn : 1 ≤ n) :
    Calls Tryz.prog 288 #[.pointer (some ⟨ge, 0, none⟩), .slice (some ⟨gd, 0, none⟩) N cpd, .slice (some ⟨gs, os, none⟩) n cps] w fun e w' => e = .returned (.tuple #[]) ∧ Bys w' gd N ∧ Below gd w w' :=
  enc32' i31 i31_eq i31_lt ge gd gs os n N cps cpd E l w hE hat hpad hl hs hd hge hgs hgd hN hcp hcd hlim hn
end Go.Proofs.YtnpcmmjdojdmnaaGreatDoor
namespace Go.Proofs.YtnpcmmjdojdmnaaGreatDoor
open Go Go.RowKit Go.Sort

set_option maxRecDepth 100000 in
set_option maxHeartbeats 4000000 in
theorem len32 (q n : Nat) (w : World) (hp : w.cell? ⟨q, 288, none⟩ = some (.int .i32 61)) (hn : n ≤ 1000000) : Calls Tryz.prog 287 #[.pointer (some ⟨q, 0, none⟩), .int .i64 n] w fun e w' => e = .returned (.int .i64 (((n + 4) / 5 * 8 : Nat) : Int)) ∧ w = w' := by
  have e1 : IntKind.i64.wrap ((n : Int) + 4) = ((n + 4 : Nat) : Int) := by rw [IntWalk.i64_in _ (by omega)]; simp
  have e2 : (((n + 4 : Nat) : Int)).tdiv 5 = (((n + 4) / 5 : Nat) : Int) := by rw [Int.tdiv_eq_ediv_of_nonneg (by omega)]; simp
  have e3 : IntKind.i64.wrap ((((n + 4) / 5 : Nat) : Int) * 8) = (((n + 4) / 5 * 8 : Nat) : Int) := by rw [IntWalk.i64_in _ (by omega)]; simp
  go_enter Tryz.func287, Tryz.ntmps287
  go_wp2
  go_ret
  refine ⟨?_, rfl⟩
  first
    | rfl
    | (refine congrArg (fun z => Ending.returned (Value.int .i64 z)) ?_; simp; done)
    | (refine congrArg (fun z => Ending.returned (Value.int .i64 z)) ?_; omega)
    | done

/-- An encoder of base 32 in memory. -/
def Enc32 (w : World) (q : Nat) : Prop := q < w.heap.size ∧ w.cell? ⟨q, 288, none⟩ = some (.int .i32 61) ∧ ∃ E : List UInt8, E.length = 32 ∧ At w q 0 E
theorem Enc32.below {B q : Nat} {w w' : World} (h : Enc32 w q) (hb : Below B w w') (hq : q < B) : Enc32 w' q := by
  obtain ⟨h1, h2, E, h3, h4⟩ := h
  exact ⟨Nat.lt_of_lt_of_le h1 hb.size, (hb.cell (p := ⟨q, 288, none⟩) hq).trans h2, E, h3, h4.below hb hq⟩

theorem bys_string {w : World} {g N : Nat} (h : Bys w g N) (cap : Nat) : ∃ s : ByteArray, s.size = N ∧ (convert 22 9 (.slice (some ⟨g, 0, none⟩) N cap)).run Tryz.prog w = .ok (.string s) w := by
  obtain ⟨f, hf⟩ : ∃ f : Nat → UInt8, ∀ j, j < N → w.cell? ⟨g, j, none⟩ = some (.int .u8 (f j).toNat) := by
    refine ⟨fun j => if hj : j < N then (h j hj).choose else 0, fun j hj => ?_⟩
    simp only [dif_pos hj]
    exact (h j hj).choose_spec.1
  have hat : At w g 0 ((List.range N).map f) := fun j hj => by
    have hj' : j < N := by simpa using hj
    rw [Nat.zero_add, hf j hj']
    simp
  have := convert_bytes hat.bytes cap
  have hl : ((List.range N).map f).length = N := by simp
  rw [hl] at this
  exact ⟨_, by show (((List.range N).map f).toArray).size = N; simp, this⟩

set_option maxRecDepth 100000 in
set_option maxHeartbeats 8000000 in
theorem encStr32 (l : List UInt8) (hl : 1 ≤ l.length) (hlim : l.length ≤ 1000000) (q g o cp : Nat) (w : World) (he : Enc32 w q) (hc : At w g o l) (hcp : l.length ≤ cp) :
    Calls Tryz.prog 256 #[.pointer (some ⟨q, 0, none⟩), .slice (some ⟨g, o, none⟩) l.length cp] w fun e w' => ∃ s, e = .returned (.string s) ∧ s.size ≤ 2000000 ∧ Below w.heap.size w w' := by
  obtain ⟨i0, hi, hz0, hz1, hz2⟩ := info_parts info5
  obtain ⟨hq, hp, E, hE, hat⟩ := he
  have H287 := Lib.hid (len32 q l.length w hp hlim)
  have hgl : g < w.heap.size := hc.lt (by omega)
  obtain ⟨N, hN⟩ : ∃ N, N = (l.length + 4) / 5 * 8 := ⟨_, rfl⟩
  have hN1 : N ≤ 2000000 := by omega
  rw [← hN] at H287
  have HALL := Lib.hid (And.intro hp (And.intro hE (And.intro hat (And.intro hc hN))))
  clear hp hE hat hc hN
  go_enter Tryz.func256, Tryz.ntmps256
  go_wp2_with (first
    | (go_at_call 287; (with_reducible refine H287.out.mono ?_); rintro e w1 ⟨rfl, rfl⟩)
    | (at_make; refine wpList_make_full _ rfl (.tmp 9) (.tmp 9) 22 rfl w.heap.size 5 i0 (.int .u8 0) 1 Tryz.underlying22 hi hz0 hz1 .i64 .i64 _ _ N rfl rfl rfl rfl ?c1 ?c2 (Nat.le_refl _) ?_))
  case c1 => rw [hz2]; omega
  case c2 => unfold maxLen; omega
  intro w3 hown hgrow
  obtain ⟨hp, hE, hat, hc, hN⟩ := HALL.out
  have hb3 : Below w.heap.size w w3 := ⟨hgrow.os, hgrow.tape, hgrow.output, hgrow.size, fun k hk => hgrow.block k hk (by simp)⟩
  have hlt3 : w.heap.size < w3.heap.size := (hown.lt w.heap.size rfl).2
  have hB : Bys w3 w.heap.size N := fun j hj => by
    refine ⟨0, ?_, hown.frozenAt j⟩
    have := hown.cellAt j (by simp; omega)
    rw [this]
    simp [madeCells]
    exact ⟨j, by rw [List.getElem?_range (by omega)], by simp [Nat.mod_one]⟩
  have H288 : Hid (∀ cd, N ≤ cd → Calls Tryz.prog 288 #[.pointer (some ⟨q, 0, none⟩), .slice (some ⟨w.heap.size, 0, none⟩) N cd, .slice (some ⟨g, o, none⟩) l.length cp] w3 fun e w' => e = .returned (.tuple #[]) ∧ Bys w' w.heap.size N ∧ Below w.heap.size w w') := Lib.hid fun cd hcd => by
    refine (enc32 q w.heap.size g o l.length N cp cd E l w3 hE (hat.below hb3 hq) ((hb3.cell (p := ⟨q, 288, none⟩) hq).trans hp) rfl (hc.below hb3 hgl) hB hq hgl hlt3 hN hcp hcd hlim hl).mono ?_
    rintro e w' ⟨rfl, h1, h2⟩
    exact ⟨rfl, h1, hb3.trans h2⟩
  clear hp hE hat hc hN hown hgrow hB
  go_wp2_with (go_at_call 288; (with_reducible refine (H288.out _ (by first | exact Nat.le_refl _ | exact le_grown _ _)).mono ?_); rintro e w5 ⟨rfl, hB5, hb5⟩; obtain ⟨s, hs, hcv⟩ := bys_string hB5 N)
  go_ret
  exact ⟨s, rfl, by omega, hb5⟩

theorem bys_conv (w : World) (s : ByteArray) : Bys (Lib.bytesWorld w 5 s) w.heap.size s.size := fun j hj => by
  have h := bytesWorld_at w s j (by rw [Array.length_toList]; exact hj)
  rw [Nat.zero_add] at h
  have h2 := Lib.bytesWorld_at_new w 5 s
  have h3 : (Lib.bytesCells w 5 s)[j]? = some (.int .u8 (s.data.toList[j]'(by rw [Array.length_toList]; exact hj)).toNat) := by simpa [World.cell?, h2] using h
  have h4 := (Array.getElem?_eq_some_iff.1 h3).1
  exact ⟨_, h, by simp [World.frozen?, h2]; omega⟩

set_option maxRecDepth 100000 in
set_option maxHeartbeats 8000000 in
theorem lower32 (s : ByteArray) (hlim : s.size ≤ 2000000) (w : World) :
    Calls Tryz.prog 255 #[.string s] w fun e w' => ∃ t, e = .returned (.string t) ∧ t.size ≤ 2000000 ∧ Below w.heap.size w w' := by
  have hcv := conv_string
  have hB := Lib.hid (And.intro (bys_conv w s) (Lib.bytesWorld_below w 5 s))
  go_enter Tryz.func255, Tryz.ntmps255
  go_wp2
  obtain ⟨W, hW⟩ : ∃ W, W = Lib.bytesWorld w 5 s := ⟨_, rfl⟩
  have HW := Lib.hid hW
  rw [← hW]
  generalize grownCap w s.size 0 5 = cap at *
  generalize hn : s.size = n at *
  clear hW hcv
  go_loopw [10] (fun v10 wr => ∃ k : Nat, v10 = .int .i64 k ∧ k ≤ n ∧ Hid (Bys wr w.heap.size n) ∧ Below w.heap.size w wr) (fun v10 _ => n - (intOf v10).toNat)
  case atStart => exact ⟨0, rfl, Nat.zero_le _, Lib.hid (by rw [HW.out]; exact hB.out.1), by rw [HW.out]; exact hB.out.2⟩
  case round =>
    obtain ⟨k, rfl, hk, hd, hbl⟩ := hrel
    by_cases hlt : k < n
    · obtain ⟨x, c0, f0⟩ := hd.out k hlt
      have hx := x.toNat_lt
      by_cases hup : 65 ≤ x.toNat ∧ x.toNat ≤ 90
      · obtain ⟨u1, u2⟩ := hup
        go_wp2
        refine ⟨⟨k + 1, by go_num, by omega, Lib.hid ?_, bset w.heap.size hbl (Nat.le_refl _) _ _⟩, by simp [intOf]; omega⟩
        have e : ((x.toNat : Int) - 65 + 97) = (((x + 32).toNat : Nat) : Int) := by rw [UInt8.toNat_add]; simp; omega
        have := hd.out.set k (x + 32)
        rw [← e] at this
        first
          | exact this
          | done
      · have e1 : (decide (65 ≤ (x.toNat : Int)) && decide ((x.toNat : Int) ≤ 90)) = false := by
          simp
          omega
        by_cases h65 : 65 ≤ x.toNat
        · have u2 : ¬ x.toNat ≤ 90 := by omega
          clear e1 hup
          go_wp2
          exact ⟨⟨k + 1, by go_num, by omega, hd, hbl⟩, by simp [intOf]; omega⟩
        · clear e1 hup
          go_wp2
          exact ⟨⟨k + 1, by go_num, by omega, hd, hbl⟩, by simp [intOf]; omega⟩
    · obtain ⟨t, ht, hcv⟩ := bys_string hd.out cap
      go_wp2
      go_ret
      exact ⟨t, rfl, by omega, hbl⟩
end Go.Proofs.YtnpcmmjdojdmnaaGreatDoor
namespace Go.Proofs.YtnpcmmjdojdmnaaGreatDoor
open Go Go.RowKit Go.Sort

theorem zero266 : Tryz.zeroCells266.size = 289 := by kernel_rfl

/-- The row of an encoder: letters, the map so far, the padding. -/
structure Row32 (s : ByteArray) (k : Nat) (Y : Array Value) : Prop where
  size : Y.size = 289
  letters : ∀ j (h : j < s.size), Y[j]? = some (.int .u8 s[j].toNat)
  pad : Y[288]? = some (.int .i32 61)
  free : ∀ x : UInt8, (∀ i (h : i < s.size), i < k → s[i] ≠ x) → Y[32 + x.toNat]? = some (.int .u8 255)

/-- The same in a world, at the block g. -/
structure RowW (s : ByteArray) (k g : Nat) (w : World) : Prop where
  letters : ∀ j (h : j < s.size), w.cell? ⟨g, j, none⟩ = some (.int .u8 s[j].toNat)
  pad : w.cell? ⟨g, 288, none⟩ = some (.int .i32 61)
  free : ∀ x : UInt8, (∀ i (h : i < s.size), i < k → s[i] ≠ x) → w.cell? ⟨g, 32 + x.toNat, none⟩ = some (.int .u8 255)
  soft : ∀ j, j < 289 → w.frozen? ⟨g, j, none⟩ = false
  lt : g < w.heap.size

theorem RowW.of {s : ByteArray} {k : Nat} {Y : Array Value} (h : Row32 s k Y) (w : World) (_hs : s.size = 32) : RowW s k w.heap.size (w.alloc (.cells Y 266)) := by
  have hc : ∀ j, (w.alloc (.cells Y 266)).cell? ⟨w.heap.size, j, none⟩ = Y[j]? := fun j => by
    simp only [World.cell?, heap_alloc_last]
    rfl
  refine ⟨fun j hj => (hc j).trans (h.letters j hj), (hc _).trans h.pad, fun x hx => (hc _).trans (h.free x hx), fun j hj => ?_, by simp⟩
  have := h.size
  simp only [World.frozen?, heap_alloc_last]
  simp

theorem RowW.drew {s : ByteArray} {k g : Nat} {w : World} (h : RowW s k g w) (n : Nat) : RowW s k g (w.drewN n) :=
  ⟨fun j hj => by rw [World.cell?_drewN]; exact h.letters j hj, by rw [World.cell?_drewN]; exact h.pad, fun x hx => by rw [World.cell?_drewN]; exact h.free x hx,
    fun j hj => by rw [World.frozen?_drewN]; exact h.soft j hj, by have := h.lt; simpa using this⟩

theorem RowW.step {s : ByteArray} {k g : Nat} {w : World} (h : RowW s k g w) (hs : s.size = 32) (hk : k < s.size) (v : Value) : RowW s (k + 1) g (w.setCell ⟨g, 32 + s[k].toNat, none⟩ v) := by
  have hx := s[k].toNat_lt
  refine ⟨fun j hj => ?_, ?_, fun x hx => ?_, fun j hj => ?_, ?_⟩
  · rw [World.cell?_setCell_other _ _ _ _ (by intro e; injection e with e1 e2; omega)]; exact h.letters j hj
  · rw [World.cell?_setCell_other _ _ _ _ (by intro e; injection e with e1 e2; omega)]; exact h.pad
  · rw [World.cell?_setCell_other _ _ _ _ (by
      intro e; injection e with e1 e2
      exact hx k hk (by omega) (UInt8.toNat_inj.1 (by omega)))]
    exact h.free x fun i hi hik => hx i hi (by omega)
  · rw [World.frozen?_setCell]; exact h.soft j hj
  · have := h.lt
    simpa using this

set_option maxRecDepth 1000000 in
set_option maxHeartbeats 8000000 in
theorem new32 (s : ByteArray) (hs : s.size = 32) (hch : ∀ i (h : i < s.size), s[i] ≠ 10 ∧ s[i] ≠ 13) (hnd : ∀ i j (hi : i < s.size) (hj : j < s.size), i < j → s[i] ≠ s[j]) (w : World) :
    Calls Tryz.prog 284 #[.string s] w fun e w' => ∃ q, e = .returned (.pointer (some ⟨q, 0, none⟩)) ∧ w.heap.size ≤ q ∧ Enc32 w' q ∧ Below w.heap.size w w' := by
  have e1 : ((s.size : Int) != 32) = false := by rw [hs]; rfl
  obtain ⟨X0, hX0⟩ : ∃ X0, X0 = Tryz.zeroCells266.setIfInBounds 288 (.int .i32 61) := ⟨_, rfl⟩
  have sX : X0.size = 289 := by rw [hX0, Array.size_setIfInBounds, zero266]
  have pX : X0[288]? = some (.int .i32 61) := by rw [hX0]; simp
  obtain ⟨Y1, hY1⟩ : ∃ Y1, Y1 = (X0.toList.take 0 ++ Lib.byteCells s.data.toList ++ X0.toList.drop (0 + s.size)).toArray := ⟨_, rfl⟩
  have hcp1 : (Builtin.copy_ #[22, 9] 3 #[.slice (some ⟨w.heap.size, 0, none⟩) 32 32, .string s]).run Tryz.prog (w.alloc (.cells X0 266)) = .ok (goInt 32) (w.alloc (.cells Y1 266)) := by
    have := Lib.run_copy_row_string (P := Tryz.prog) (w.alloc (.cells X0 266)) 22 9 3 5 w.heap.size 0 32 32 s X0 266 Tryz.underlying22 (by kernel_rfl) (heap_alloc_last w _) (by omega) (by omega)
    rw [this, hs, World.setRow_alloc_new, hY1, hs]
    rfl
  have b1 : Lib.byteCells s.data.toList = byteVals s.data.toList := rfl
  have l1 : (byteVals s.data.toList).length = 32 := by rw [byteVals_length, Array.length_toList]; exact hs
  have sY1 : Y1.size = 289 := by
    rw [hY1, b1]
    simp [l1, hs, sX]
  have gY1 : ∀ j (h : j < s.size), Y1[j]? = some (.int .u8 s[j].toNat) := fun j h => by
    rw [hY1, b1, List.take_zero, List.nil_append, List.getElem?_toArray, List.getElem?_append_left (by omega)]
    have hj : j < s.data.toList.length := by rw [Array.length_toList]; exact h
    simp only [byteVals, List.getElem?_map, List.getElem?_eq_getElem hj, Option.map_some, Array.getElem_toList]
    rfl
  have pY1 : Y1[288]? = some (.int .i32 61) := by
    rw [hY1, b1, List.take_zero, List.nil_append, List.getElem?_toArray, List.getElem?_append_right (by omega), l1, List.getElem?_drop, hs, Array.getElem?_toList]
    exact pX
  rw [hX0] at hcp1
  clear hX0 hY1 sX pX b1 l1
  go_enter Tryz.func284, Tryz.ntmps284
  go_name_bytes_deep 40 MA hMA
  clear hMA
  go_name_bytes_deep 40 FF hFF
  have lFF : FF.data.toList = List.replicate 256 255 := by rw [← hFF]; decide +kernel
  clear hFF
  have sFF : FF.size = 256 := by
    show FF.data.size = 256
    rw [← Array.length_toList, lFF, List.length_replicate]
  obtain ⟨Y2, hY2⟩ : ∃ Y2, Y2 = (Y1.toList.take 32 ++ Lib.byteCells FF.data.toList ++ Y1.toList.drop (32 + FF.size)).toArray := ⟨_, rfl⟩
  have hcp2 : (Builtin.copy_ #[22, 9] 3 #[.slice (some ⟨w.heap.size, 32, none⟩) 256 256, .string FF]).run Tryz.prog (w.alloc (.cells Y1 266)) = .ok (goInt 256) (w.alloc (.cells Y2 266)) := by
    have := Lib.run_copy_row_string (P := Tryz.prog) (w.alloc (.cells Y1 266)) 22 9 3 5 w.heap.size 32 256 256 FF Y1 266 Tryz.underlying22 (by kernel_rfl) (heap_alloc_last w _) (by omega) (by omega)
    rw [this, sFF, World.setRow_alloc_new, hY2, sFF]
    rfl
  have b2 : Lib.byteCells FF.data.toList = byteVals (List.replicate 256 255) := by rw [lFF]; rfl
  have l2 : (byteVals (List.replicate 256 255)).length = 256 := by rw [byteVals_length, List.length_replicate]
  have lt1 : (Y1.toList.take 32).length = 32 := by rw [List.length_take, Array.length_toList, sY1]; rfl
  have HROW : Hid (Row32 s 0 Y2) := Lib.hid (by
    refine ⟨?_, fun j h => ?_, ?_, fun x _ => ?_⟩
    · rw [hY2, b2, List.size_toArray, List.length_append, List.length_append, lt1, l2, List.length_drop, Array.length_toList, sY1, sFF]
    · rw [hY2, b2, List.getElem?_toArray, List.append_assoc, List.getElem?_append_left (by omega), List.getElem?_take_of_lt (by omega), Array.getElem?_toList]
      exact gY1 j h
    · rw [hY2, b2, List.getElem?_toArray, List.getElem?_append_right (by rw [List.length_append]; omega), List.length_append, lt1, l2, List.getElem?_drop, sFF, Array.getElem?_toList]
      exact pY1
    · have hx := x.toNat_lt
      rw [hY2, b2, List.getElem?_toArray, List.append_assoc, List.getElem?_append_right (by omega), lt1, List.getElem?_append_left (by omega)]
      rw [show 32 + x.toNat - 32 = x.toNat by omega]
      simp only [byteVals, List.map_replicate, List.getElem?_replicate]
      rw [if_pos (by omega)]
      rfl)
  clear hY2 b2 l2 lt1 gY1 pY1 sY1 lFF sFF
  skip
  obtain ⟨W, hW⟩ : ∃ W, W = w.alloc (.cells Y2 266) := ⟨_, rfl⟩
  have HW : Hid (RowW s 0 w.heap.size W ∧ Below w.heap.size w W) := Lib.hid ⟨by rw [hW]; exact RowW.of HROW.out w hs, by rw [hW]; exact (Below.refl _ _).alloc (Nat.le_refl _) _⟩
  have H := Lib.hid (And.intro hch hnd)
  go_wp2
  rw [← hW]
  clear hW HROW hch hnd
  go_loopw [4] (fun v4 wr => ∃ k : Nat, v4 = .int .i64 k ∧ k ≤ 32 ∧ Hid (RowW s k w.heap.size wr) ∧ Below w.heap.size w wr) (fun v4 _ => 32 - (intOf v4).toNat)
  case atStart => exact ⟨0, rfl, Nat.zero_le _, Lib.hid HW.out.1, HW.out.2⟩
  case round =>
    obtain ⟨k, rfl, hk, hd, hbl⟩ := hrel
    by_cases hlt : k < s.size
    · obtain ⟨hc1, hc2⟩ := H.out.1 k hlt
      have c1 : ((s[k].toNat : Int) == 10) = false := by
        rw [beq_eq_false_iff_ne]; intro e; exact hc1 (UInt8.toNat_inj.1 (by simpa using (by omega : s[k].toNat = 10)))
      have c2 : ((s[k].toNat : Int) == 13) = false := by
        rw [beq_eq_false_iff_ne]; intro e; exact hc2 (UInt8.toNat_inj.1 (by simpa using (by omega : s[k].toNat = 13)))
      have hx := s[k].toNat_lt
      have hfree := hd.out.free s[k] (fun i hi hik => H.out.2 i k hi hlt hik)
      have hsoft := hd.out.soft (32 + s[k].toNat) (by omega)
      clear hc1 hc2
      go_wp2
      go_quiet (fail)
      go_wp2
      go_region
      go_wp2
      exact ⟨⟨k + 1, rfl, by omega, Lib.hid ((hd.out.drew _).step hs hlt _), bset w.heap.size (below_drewN hbl _) (Nat.le_refl _) _ _⟩, by simp [intOf]; omega⟩
    · go_wp2
      go_ret
      obtain ⟨r1, r2, r3, r4, r5⟩ := hd.out
      exact ⟨w.heap.size, rfl, Nat.le_refl _, ⟨r5, r2, s.data.toList, by rw [Array.length_toList]; exact hs, fun j hj => by
        rw [Nat.zero_add, r1 j (by rw [Array.length_toList] at hj; exact hj)]
        rfl⟩, hbl⟩
end Go.Proofs.YtnpcmmjdojdmnaaGreatDoor
