/- NewMultiaddrBytes (31) at any bytes. components (32) of an address of any length. MaParseBytes (13), ZZRead (35) at any bytes. The closure of MaReadOne (34), safe (33) of it. MaReadOne (14). spec.MaVarint (37). spec.MaBytes (15) of one component. laws.FnMaOne answers true, if the transcoders do what chk says. laws.FnMaOne answers true at any bytes, if the transcoders do what chk says. -/
import Derived.Test.YtnpcmmjdojdmnaaGreatDoorSe
import Derived.Test.YtnpcmmjdojdmnaaGreatDoorQr
import Derived.Test.YtnpcmmjdojdmnaaGreatDoorRb
import Derived.Test.YtnpcmmjdojdmnaaGreatDoorQb
import Derived.Test.YtnpcmmjdojdmnaaGreatDoorQc
import Derived.Test.YtnpcmmjdojdmnaaGreatDoorSa
import Derived.Test.YtnpcmmjdojdmnaaGreatDoorQh
import Derived.Test.YtnpcmmjdojdmnaaGreatDoorQa
import Derived.Test.YtnpcmmjdojdmnaaGreatDoorQi
namespace Go.Proofs.YtnpcmmjdojdmnaaGreatDoor
open Go Go.RowKit Go.Sort

theorem RdOk.uniq {b : List UInt8} {a z : List (Int × List UInt8)} (h : RdOk b a) (h' : RdOk b z) : a = z :=
  all_inj (fun x hx => (h.2.2.1 x hx).okF) (fun x hx => (h'.2.2.1 x hx).okF) (h.1.symm.trans h'.1)

theorem at_of_bytes {w : World} {a : Addr} {l : List UInt8} (h : BytesAt w (some a) l) (hl : 0 < l.length) : ∃ g o, a = ⟨g, o, none⟩ ∧ At w g o l := by
  obtain ⟨g, o, spot⟩ := a
  have h0 := h.2 _ rfl 0 hl
  have hs : spot = none := by simpa [Addr.add] using World.cell?_spot h0
  subst hs
  exact ⟨g, o, rfl, fun j hj => by have := h.2 _ rfl j hj; rwa [Addr.add_lit] at this⟩

/-- The bytes' components in new memory. -/
def NewM (B : Nat) (w' : World) (v : Value) (cs : List (Int × List UInt8)) : Prop := ∃ bb cap, v = .slice (some ⟨bb, 0, none⟩) cs.length cap ∧ B ≤ bb ∧ bb < w'.heap.size ∧ cs.length ≤ cap ∧ MAt w' bb 0 cs

theorem readMultiaddrB (HT : AllTrans) (b : List UInt8) (p : Option Addr) (cp : Nat) (w : World) (he : Env w) (hB : BytesAt w p b) (hcp : b.length ≤ cp) (hlim : b.length ≤ 1000000) :
    Calls Tryz.prog 53 #[.slice p b.length cp] w fun e w' => RmOut b w.heap.size e w' ∧ Below w.heap.size w w' := by
  by_cases hb : b = []
  · subst hb
    exact readMultiaddr_empty p cp w
  · have hl := List.length_pos_iff.2 hb
    cases p with
    | none => exact absurd (hB.1 rfl) hb
    | some a =>
      obtain ⟨g, o, rfl, hat⟩ := at_of_bytes hB hl
      exact readMultiaddrA HT b hb g o cp w he hat hcp hlim

theorem rmYes {b : List UInt8} {cs : List (Int × List UInt8)} (h : RdOk b cs) {B : Nat} {e : Ending} {w' : World} (ho : RmOut b B e w') : ∃ v, e = .returned (.tuple #[.int .i64 b.length, v, .nilIface]) ∧ NewM B w' v cs := by
  rcases ho with ⟨cs', bb, cap, hr, he, h1, h2, h3, h4⟩ | ⟨hno, _⟩
  · obtain rfl := hr.uniq h
    exact ⟨_, he, bb, cap, rfl, h1, h2, h3, h4⟩
  · exact absurd ⟨cs, h⟩ hno
theorem rmNo {b : List UInt8} (h : ¬ ∃ cs, RdOk b cs) {B : Nat} {e : Ending} {w' : World} (ho : RmOut b B e w') : ∃ (n : Int) (t : TypeId) (p : Value), e = .returned (.tuple #[.int .i64 n, .slice none 0 0, .iface t p]) := by
  rcases ho with ⟨cs', bb, cap, hr, _⟩ | ⟨_, h⟩
  · exact absurd ⟨cs', hr⟩ h
  · exact h

set_option maxRecDepth 100000 in
set_option maxHeartbeats 4000000 in
theorem nmYes (HT : AllTrans) (b : List UInt8) (cs : List (Int × List UInt8)) (hrd : RdOk b cs) (p : Option Addr) (cp : Nat) (w : World) (he : Env w) (hB : BytesAt w p b) (hcp : b.length ≤ cp) (hlim : b.length ≤ 1000000) :
    Calls Tryz.prog 31 #[.slice p b.length cp] w fun e w' => ∃ v, e = .returned (.tuple #[v, .nilIface]) ∧ NewM w.heap.size w' v cs ∧ Below w.heap.size w w' := by
  have hmf : ∀ (fn : Fn) (first cap : Array Value) (w : World), (Instr.makeFunc fn first cap).run Tryz.prog w = .ok (.func fn first cap) w := fun _ _ _ _ => rfl
  have H53 : ∀ ob, Hid (Calls Tryz.prog 53 #[.slice p b.length cp] (w.alloc ob) fun e w' => ∃ v, e = .returned (.tuple #[.int .i64 b.length, v, .nilIface]) ∧ NewM (w.alloc ob).heap.size w' v cs ∧ Below (w.alloc ob).heap.size (w.alloc ob) w') :=
    fun ob => Lib.hid ((readMultiaddrB HT b p cp (w.alloc ob) (he.up ((Below.refl _ _).alloc (Nat.le_refl _) _)) (hB.below ((Below.refl _ _).alloc (Nat.le_refl _) _) hB.lt) hcp hlim).mono (by
      rintro e w' ⟨ho, hb⟩
      obtain ⟨v, h1, h2⟩ := rmYes hrd ho
      exact ⟨v, h1, h2, hb⟩))
  have hl : 1 ≤ cs.length := List.length_pos_iff.2 hrd.2.1
  have q0 : ((cs.length : Int) == 0) = false := by
    have : (cs.length : Int) ≠ 0 := by omega
    simpa using this
  clear hB he hrd
  generalize b.length = N at *
  go_enter_defers Tryz.func31, Tryz.ntmps31
  go_wp2_with (go_at_call 53; (with_reducible refine (H53 _).out.mono ?_); rintro e w2 ⟨v, rfl, ⟨bb, cap, rfl, hb1, hb2, hb3, hma⟩, hb⟩; refine Hid.out ?_)
  refine Lib.hid ?_
  obtain ⟨hbc, hbf⟩ := bcell hb
  have hlt : w.heap.size < w2.heap.size := by have := hb.size; simp at this; omega
  have hc0 : w2.cell? ⟨w.heap.size, 0, none⟩ = some .nilIface := (hbc _ _ (by simp)).trans (by simp [go_sem])
  have hc1 : (w2.setCell ⟨w.heap.size, 0, none⟩ .nilIface).cell? ⟨w.heap.size, 0, none⟩ = some .nilIface := World.cell?_setCell_same _ _ _ hc0
  have hc2 : ((w2.setCell ⟨w.heap.size, 0, none⟩ .nilIface).setCell ⟨w.heap.size, 0, none⟩ .nilIface).cell? ⟨w.heap.size, 0, none⟩ = some .nilIface := World.cell?_setCell_same _ _ _ hc1
  have hset : ∀ (wx : World) (x : Value), MAt wx bb 0 cs → wx.cell? ⟨w.heap.size, 0, none⟩ = some .nilIface → MAt (wx.setCell ⟨w.heap.size, 0, none⟩ x) bb 0 cs := fun wx x hm h0 j hj => by
    obtain ⟨q, x1, x2, x3, x4⟩ := hm j hj
    have hbb : bb ≠ w.heap.size := by simp at hb1; omega
    have ho : ∀ (k i : Nat), k ≠ w.heap.size → (wx.setCell ⟨w.heap.size, 0, none⟩ x).cell? ⟨k, i, none⟩ = wx.cell? ⟨k, i, none⟩ := fun k i hk => World.cell?_of_block (Below.heap_setCell wx ⟨w.heap.size, 0, none⟩ x k hk)
    refine ⟨q, (ho _ _ hbb).trans x1, (ho _ _ hbb).trans x2, (ho _ _ hbb).trans x3, ?_⟩
    obtain ⟨a1, a2, vc, ⟨g, g1, g2, rfl, g4⟩, p0, p1, p2, p3, p4, p5⟩ := x4
    have hq : q ≠ w.heap.size := fun e => by rw [e, h0] at p0; cases p0
    have hg : g ≠ w.heap.size := fun e => by
      have := g4 0 (Lib.uvarint_pos _)
      rw [e, h0] at this; cases this
    exact ⟨a1, by simpa [World.setCell] using a2, _, ⟨g, g1, by simpa [World.setCell] using g2, rfl, fun j hj => (ho _ _ hg).trans (g4 j hj)⟩, (ho _ _ hq).trans p0, (ho _ _ hq).trans p1, (ho _ _ hq).trans p2, (ho _ _ hq).trans p3, (ho _ _ hq).trans p4, (ho _ _ hq).trans p5⟩
  have hend : NewM w.heap.size ((w2.setCell ⟨w.heap.size, 0, none⟩ .nilIface).setCell ⟨w.heap.size, 0, none⟩ .nilIface) (.slice (some ⟨bb, 0, none⟩) cs.length cap) cs ∧ Below w.heap.size w ((w2.setCell ⟨w.heap.size, 0, none⟩ .nilIface).setCell ⟨w.heap.size, 0, none⟩ .nilIface) :=
    ⟨⟨bb, cap, rfl, by simp at hb1; omega, by simpa [World.setCell] using hb2, hb3, hset _ _ (hset _ _ hma hc0) hc1⟩, ((below_under hb).setCell (Nat.le_refl _) _).setCell (Nat.le_refl _) _⟩
  have HEND := Lib.hid hend; clear hend hma hset
  go_wp2
  refine leaves_cons (f := 51) (args := #[.pointer (some ⟨w.heap.size, 0, none⟩)]) (by simp) (by simp [go_sem]) ?_
  refine (idle51 ⟨w.heap.size, 0, none⟩ _).mono ?_
  rintro e u' w'' ⟨rfl, rfl, rfl⟩
  generalize ((w2.setCell ⟨w.heap.size, 0, none⟩ .nilIface).setCell ⟨w.heap.size, 0, none⟩ .nilIface) = w5 at *
  simp [Leaves, settle, results, Tryz.results31, go_sem, hc2]
  exact HEND.out

set_option maxRecDepth 100000 in
set_option maxHeartbeats 4000000 in
theorem nmNo (HT : AllTrans) (b : List UInt8) (hrd : ¬ ∃ cs, RdOk b cs) (p : Option Addr) (cp : Nat) (w : World) (he : Env w) (hB : BytesAt w p b) (hcp : b.length ≤ cp) (hlim : b.length ≤ 1000000) :
    Calls Tryz.prog 31 #[.slice p b.length cp] w fun e w' => ∃ t x, e = .returned (.tuple #[.slice none 0 0, .iface t x]) ∧ Below w.heap.size w w' := by
  have hmf : ∀ (fn : Fn) (first cap : Array Value) (w : World), (Instr.makeFunc fn first cap).run Tryz.prog w = .ok (.func fn first cap) w := fun _ _ _ _ => rfl
  have H53 : ∀ ob, Hid (Calls Tryz.prog 53 #[.slice p b.length cp] (w.alloc ob) fun e w' => ∃ (n : Int) (t : TypeId) (x : Value), e = .returned (.tuple #[.int .i64 n, .slice none 0 0, .iface t x]) ∧ Below (w.alloc ob).heap.size (w.alloc ob) w') :=
    fun ob => Lib.hid ((readMultiaddrB HT b p cp (w.alloc ob) (he.up ((Below.refl _ _).alloc (Nat.le_refl _) _)) (hB.below ((Below.refl _ _).alloc (Nat.le_refl _) _) hB.lt) hcp hlim).mono (by
      rintro e w' ⟨ho, hb⟩
      obtain ⟨n, t, x, h1⟩ := rmNo hrd ho
      exact ⟨n, t, x, h1, hb⟩))
  clear hB he hrd
  generalize b.length = N at *
  go_enter_defers Tryz.func31, Tryz.ntmps31
  go_wp2_with (go_at_call 53; (with_reducible refine (H53 _).out.mono ?_); rintro e w2 ⟨n, t, x, rfl, hb⟩; refine Hid.out ?_)
  refine Lib.hid ?_
  obtain ⟨hbc, hbf⟩ := bcell hb
  have hlt : w.heap.size < w2.heap.size := by have := hb.size; simp at this; omega
  have hc0 : w2.cell? ⟨w.heap.size, 0, none⟩ = some .nilIface := (hbc _ _ (by simp)).trans (by simp [go_sem])
  have HBL := Lib.hid (below_under hb)
  clear hb
  go_wp2
  go_region
  go_wp2
  have hc1 : (w2.setCell ⟨w.heap.size, 0, none⟩ (.iface t x)).cell? ⟨w.heap.size, 0, none⟩ = some (.iface t x) := World.cell?_setCell_same _ _ _ hc0
  have hc2 : ((w2.setCell ⟨w.heap.size, 0, none⟩ (.iface t x)).setCell ⟨w.heap.size, 0, none⟩ (.iface t x)).drew.cell? ⟨w.heap.size, 0, none⟩ = some (.iface t x) := World.cell?_setCell_same _ _ _ hc1
  have HEND : Hid (Below w.heap.size w ((w2.setCell ⟨w.heap.size, 0, none⟩ (.iface t x)).setCell ⟨w.heap.size, 0, none⟩ (.iface t x)).drew) := Lib.hid (((HBL.out.setCell (Nat.le_refl _) _).setCell (Nat.le_refl _) _).drew)
  refine leaves_cons (f := 51) (args := #[.pointer (some ⟨w.heap.size, 0, none⟩)]) (by simp) (by simp [go_sem]) ?_
  refine (idle51 ⟨w.heap.size, 0, none⟩ _).mono ?_
  rintro e u' w'' ⟨rfl, rfl, rfl⟩
  generalize ((w2.setCell ⟨w.heap.size, 0, none⟩ (.iface t x)).setCell ⟨w.heap.size, 0, none⟩ (.iface t x)).drew = w5 at *
  simp [Leaves, settle, results, Tryz.results31, go_sem, hc2]
  exact HEND.out
end Go.Proofs.YtnpcmmjdojdmnaaGreatDoor
namespace Go.Proofs.YtnpcmmjdojdmnaaGreatDoor
open Go Go.RowKit Go.Sort

theorem comp_head (c : Int) (l : List UInt8) : compBytes c l = headBytes c l.length ++ l := rfl
theorem head_extract (c : Int) (l : List UInt8) : (⟨(compBytes c l).toArray⟩ : ByteArray).extract (headBytes c l.length).length (⟨(compBytes c l).toArray⟩ : ByteArray).size = ⟨l.toArray⟩ := by
  have hs : (⟨(compBytes c l).toArray⟩ : ByteArray).size = (headBytes c l.length).length + l.length := by
    show (compBytes c l).toArray.size = _
    rw [List.size_toArray, comp_head, List.length_append]
  rw [ba_extract, hs, comp_head, List.drop_left, List.take_of_length_le (by omega)]

/-- Components of the thin package in memory that is new. -/
def IRowN (B : Nat) (w : World) (b : Nat) (cs : List (Int × List UInt8)) : Prop :=
  ∀ k (h : k < cs.length), w.cell? ⟨b, k * 2, none⟩ = some (.int .i64 cs[k].1) ∧ ∃ g cp, w.cell? ⟨b, k * 2 + 1, none⟩ = some (.slice (some ⟨g, 0, none⟩) cs[k].2.length cp) ∧ B ≤ g ∧ g < w.heap.size ∧ cs[k].2.length ≤ cp ∧ At w g 0 cs[k].2
def IOut (B : Nat) (w : World) (v : Value) (cs : List (Int × List UInt8)) : Prop :=
  ∃ b cap, v = .slice (some ⟨b, 0, none⟩) cs.length cap ∧ B ≤ b ∧ b < w.heap.size ∧ cs.length ≤ cap ∧ IRowN B w b cs
theorem IRowN.below {B B' b : Nat} {w w' : World} {cs : List (Int × List UInt8)} (h : IRowN B w b cs) (hb : Below B' w w') (hB : w.heap.size ≤ B') (hbl : b < w.heap.size) : IRowN B w' b cs := fun k hk => by
  obtain ⟨h1, g, cp, h2, h3, h4, h5, h6⟩ := h k hk
  exact ⟨(hb.cell (p := ⟨b, _, none⟩) (by show b < B'; omega)).trans h1, g, cp, (hb.cell (p := ⟨b, _, none⟩) (by show b < B'; omega)).trans h2, h3, Nat.lt_of_lt_of_le h4 hb.size, h5, h6.below hb (by omega)⟩
/-- What a row's cells are. -/
def XsI (B : Nat) (w : World) (cs : List (Int × List UInt8)) (k : Nat) (xs : List Value) : Prop :=
  ∀ j (h : j < k) (hc : j < cs.length), xs[j * 2]? = some (.int .i64 cs[j].1) ∧ ∃ g cp, xs[j * 2 + 1]? = some (.slice (some ⟨g, 0, none⟩) cs[j].2.length cp) ∧ B ≤ g ∧ g < w.heap.size ∧ cs[j].2.length ≤ cp ∧ At w g 0 cs[j].2
theorem XsI.below {B B' : Nat} {w w' : World} {cs : List (Int × List UInt8)} {k : Nat} {xs : List Value} (h : XsI B w cs k xs) (hb : Below B' w w') (hB : w.heap.size ≤ B') : XsI B w' cs k xs := fun j hj hc => by
  obtain ⟨h1, g, cp, h2, h3, h4, h5, h6⟩ := h j hj hc
  exact ⟨h1, g, cp, h2, h3, Nat.lt_of_lt_of_le h4 hb.size, h5, h6.below hb (by omega)⟩
theorem XsI.snoc {B : Nat} {w : World} {cs : List (Int × List UInt8)} {k g cp : Nat} {xs : List Value} (h : XsI B w cs k xs) (hl : xs.length = k * 2) (hk : k < cs.length) (h3 : B ≤ g) (h4 : g < w.heap.size) (h5 : cs[k].2.length ≤ cp) (h6 : At w g 0 cs[k].2) :
    XsI B w cs (k + 1) (xs ++ [.int .i64 cs[k].1, .slice (some ⟨g, 0, none⟩) cs[k].2.length cp]) := fun j hj hc => by
  by_cases hjk : j < k
  · obtain ⟨h1, g', cp', h2, hr⟩ := h j hjk hc
    exact ⟨by rw [List.getElem?_append_left (by omega)]; exact h1, g', cp', by rw [List.getElem?_append_left (by omega)]; exact h2, hr⟩
  · obtain rfl : j = k := by omega
    refine ⟨?_, g, cp, ?_, h3, h4, h5, h6⟩
    · rw [List.getElem?_append_right (by omega), show j * 2 - xs.length = 0 by omega]; rfl
    · rw [List.getElem?_append_right (by omega), show j * 2 + 1 - xs.length = 1 by omega]; rfl

set_option maxRecDepth 100000 in
set_option maxHeartbeats 8000000 in
theorem componentsN (cs : List (Int × List UInt8)) (hne : cs ≠ []) (hn : cs.length ≤ 1000000) (bb cap : Nat) (w : World) (hm : MAt w bb 0 cs) :
    Calls Tryz.prog 32 #[.slice (some ⟨bb, 0, none⟩) cs.length cap] w fun e w' => ∃ v, e = .returned v ∧ IOut w.heap.size w' v cs ∧ Below w.heap.size w w' := by
  obtain ⟨i0, hi, hz0, hz1, hz2⟩ := info_parts info24
  have HM := Lib.hid hm
  have HNE : Hid (0 < cs.length) := Lib.hid (List.length_pos_iff.2 hne)
  clear hm hne
  go_enter Tryz.func32, Tryz.ntmps32
  go_wp2
  go_loopw [3, 8] (fun v3 v8 wr => ∃ (k : Nat) (xs : List Value), v8 = .int .i64 k ∧ k ≤ cs.length ∧ wr.ownsRow w.heap.size 24 2 v3 k xs ∧ Hid (XsI w.heap.size wr cs k xs) ∧ Below w.heap.size w wr) (fun _ v8 _ => cs.length - (intOf v8).toNat)
  case atStart => exact ⟨0, [], rfl, Nat.zero_le _, World.ownsRow_nil _ _ _ _, Lib.hid (fun j h => by omega), Below.refl _ _⟩
  case round =>
    obtain ⟨k, xs, rfl, hk, hown, hxs, hbl⟩ := hrel
    by_cases hlt : k < cs.length
    · obtain ⟨q, x0, x1, x2, hp⟩ := HM.out k hlt
      rw [Nat.zero_add] at x0 x1 x2
      have hbb := World.block_lt_of_cell? w _ x0
      obtain ⟨_, hq2, _, _, _, p1, _⟩ := hp
      have c0 : wr.cell? ⟨bb, k * 3, none⟩ = some (.string ⟨(compBytes cs[k].1 cs[k].2).toArray⟩) := (hbl.cell (p := ⟨bb, k * 3, none⟩) hbb).trans x0
      have c1 : wr.cell? ⟨bb, k * 3 + 1, none⟩ = some (.pointer (some ⟨q, 0, none⟩)) := (hbl.cell (p := ⟨bb, k * 3 + 1, none⟩) hbb).trans x1
      have c2 : wr.cell? ⟨bb, k * 3 + 2, none⟩ = some (.int .i64 (headBytes cs[k].1 cs[k].2.length).length) := (hbl.cell (p := ⟨bb, k * 3 + 2, none⟩) hbb).trans x2
      have p1' : wr.cell? ⟨q, 1, none⟩ = some (.int .i64 cs[k].1) := (hbl.cell (p := ⟨q, 1, none⟩) hq2).trans p1
      have hqr := World.block_lt_of_cell? wr _ p1'
      obtain ⟨c, hcc⟩ : ∃ c, c = cs[k].1 := ⟨_, rfl⟩
      obtain ⟨l, hll⟩ : ∃ l, l = cs[k].2 := ⟨_, rfl⟩
      have HE := Lib.hid (And.intro hcc hll)
      rw [← hcc, ← hll] at c0 c2
      rw [← hcc] at p1'
      have HO : Hid (Calls Tryz.prog 36 #[.pointer (some ⟨wr.heap.size, 0, none⟩)] (wr.alloc (.cells #[.string ⟨(compBytes c l).toArray⟩, .pointer (some ⟨q, 0, none⟩), .int .i64 (headBytes c l.length).length] 50)) fun e w' => ∃ g cp, e = .returned (.agg #[.int .i64 c, .slice (some ⟨g, 0, none⟩) l.length cp]) ∧ wr.heap.size + 1 ≤ g ∧ g < w'.heap.size ∧ l.length ≤ cp ∧ At w' g 0 l ∧ Below (wr.heap.size + 1) (wr.alloc (.cells #[.string ⟨(compBytes c l).toArray⟩, .pointer (some ⟨q, 0, none⟩), .int .i64 (headBytes c l.length).length] 50)) w') := Lib.hid (by
        have := compOne wr.heap.size 0 q (headBytes c l.length).length c ⟨(compBytes c l).toArray⟩ ⟨l.toArray⟩ (wr.alloc (.cells #[.string ⟨(compBytes c l).toArray⟩, .pointer (some ⟨q, 0, none⟩), .int .i64 (headBytes c l.length).length] 50)) (by simp [go_sem]) (by simp [go_sem]) (by simp [go_sem]) (by rw [World.cell?_alloc_past _ _ _ hqr]; exact p1')
          (by show _ ≤ (compBytes c l).toArray.size; rw [List.size_toArray, comp_head, List.length_append]; omega) (head_extract c l)
        have e : (⟨l.toArray⟩ : ByteArray).size = l.length := List.size_toArray ..
        rw [e] at this
        simpa using this)
      clear x0 x1 x2 p1 hcc hll p1'
      go_wp2_with (go_at_call 36; (with_reducible refine HO.out.mono ?_); rintro e w2 ⟨g2, cp2, rfl, hg1, hg2, hcp2, hat, hb⟩; refine Hid.out ?_)
      refine Lib.hid ?_
      have hb2 : Below wr.heap.size wr w2 := ((Below.refl _ _).alloc (Nat.le_refl _) _).trans (hb.mono (Nat.le_succ _))
      have hown2 : w2.ownsRow w.heap.size 24 2 u3 k xs := hown.kept (row := none) ⟨hb2.os, hb2.tape, hb2.output, hb2.size, fun k hk _ => hb2.block k hk⟩ (by cases hh : Value.ownBlock _ <;> simp)
      have hbw : Below w.heap.size w w2 := hbl.trans (hb2.mono hbl.size)
      have HXS2 := Lib.hid (hxs.out.below hb2 (Nat.le_refl _))
      have HLT := Lib.hid (fun b (h : Value.ownBlock u3 = some b) => (hown.lt b h).2)
      have HAT := Lib.hid (And.intro hat (And.intro hg1 (And.intro hg2 hcp2)))
      have hzb := hbl.size
      have HBW := Lib.hid hbw
      have hzw := hbw.size
      clear hat hb hbw c0 c1 c2 hown hxs hb2 hbl
      go_wp2_with (at_builtin; refine wpList_append_own _ rfl (.tmp 12) (.tmp 14) 31 rfl w.heap.size 24 i0 (.agg #[.int .i64 0, .slice none 0 0]) 2 32 Tryz.underlying31 hi hz0 hz1 hz2 rfl (by decide) _ _ _ rfl (hown2.alloc _) ⟨w2.heap.size, 0, none⟩ 1 1 [.int .i64 c, .slice (some ⟨g2, 0, none⟩) l.length cp2] rfl rfl (cell_two_new _ _ _ _) ?c2 ?c3 ?c4 ?c5 ?_)
      case c2 =>
        intro u hu
        simp only [List.mem_cons, List.not_mem_nil, or_false] at hu
        rcases hu with rfl | rfl <;> rfl
      case c3 => unfold maxLen; omega
      case c4 => omega
      case c5 => simp; omega
      intro v' w3 hown3 hgrow _
      obtain ⟨hat, hg1, hg2, hcp2⟩ := HAT.out
      have hb3 : Below w.heap.size w w3 := (HBW.out.alloc hzw _).grown hgrow (by simp; omega) (fun k hk => (hown2.lt k hk).1)
      have hsame : ∀ (b g : Nat) (m : List UInt8), g < w2.heap.size → At w2 g 0 m → (m = [] ∨ Value.ownBlock u3 ≠ some g) → At w3 g 0 m := fun b g m hg ha hne j hj => by
        rcases hne with rfl | hne
        · cases hj
        · have h1 : (w2.alloc (.cells #[.int .i64 c, .slice (some ⟨g2, 0, none⟩) l.length cp2] 24)).cell? ⟨g, 0 + j, none⟩ = _ := (World.cell?_alloc_past _ _ _ hg).trans (ha j hj)
          rw [World.cell?_of_block (hgrow.block g (by simp; omega) (fun e => hne e.symm))]
          exact h1
      have hat3 : At w3 g2 0 l := hsame 0 g2 l hg2 hat (Or.inr (fun e => by have := HLT.out g2 e; omega))
      have hX3 : XsI w.heap.size w3 cs k xs := by
        intro j hj hc
        obtain ⟨y1, g', cp', y2, y3, y4, y5, y6⟩ := HXS2.out j hj hc
        refine ⟨y1, g', cp', y2, y3, ?_, y5, hsame 0 g' _ y4 y6 ?_⟩
        · have := hgrow.size; simp at this; omega
        · by_cases he : cs[j].2 = []
          · exact Or.inl he
          · refine Or.inr (fun hrow => ?_)
            have hcells := (hown2.alloc (.cells #[.int .i64 c, .slice (some ⟨g2, 0, none⟩) l.length cp2] 24)).cells hrow
            obtain ⟨z1, _⟩ := HXS2.out 0 (by omega) (by omega)
            have z0 := hcells 0 _ z1
            rw [Addr.add_lit, World.cell?_alloc_past _ _ _ y4] at z0
            have := y6 0 (List.length_pos_iff.2 he)
            rw [this] at z0
            cases z0
      obtain ⟨hcc, hll⟩ := HE.out
      have hX4 := hX3.snoc (g := g2) (cp := cp2) hown2.1 hlt (by omega) (by have := hgrow.size; simp at this; omega) (by rw [← hll]; exact hcp2) (by rw [← hll]; exact hat3)
      rw [← hcc, ← hll] at hX4
      have HO3 := Lib.hid (And.intro hown3 (And.intro hX4 hb3))
      clear hown3 hX3 hX4 hb3 hgrow hown2 hat hat3 hsame hcc hll
      go_wp2
      obtain ⟨hown3, hX4, hb3⟩ := HO3.out
      exact ⟨⟨k + 1, _, by go_num, by omega, hown3, Lib.hid hX4, hb3⟩, by simp [intOf]; omega⟩
    · have hke : k = cs.length := by omega
      subst hke
      have HO := Lib.hid hown
      rcases hown.2 with ⟨_, h⟩ | ⟨b, cap, cur, hv, hbase, hheap, hle, hmax, hcur, htake⟩
      · have := HNE.out; omega
      subst hv
      have HA : Hid (IRowN w.heap.size wr b cs) := Lib.hid fun j hj => by
        obtain ⟨y1, g', cp', y2, hr⟩ := hxs.out j hj hj
        exact ⟨by rw [HO.out.cellAt _ (by omega)]; exact y1, g', cp', by rw [HO.out.cellAt _ (by omega)]; exact y2, hr⟩
      have hbl' := (hown.lt b rfl).2
      clear hown hheap htake hcur
      go_wp2
      go_ret
      exact ⟨_, rfl, ⟨b, cap, rfl, hbase, hbl', hle, HA.out⟩, hbl⟩
end Go.Proofs.YtnpcmmjdojdmnaaGreatDoor
namespace Go.Proofs.YtnpcmmjdojdmnaaGreatDoor
open Go Go.RowKit Go.Sort

set_option maxRecDepth 100000 in
set_option maxHeartbeats 4000000 in
theorem parseYes (HT : AllTrans) (b : List UInt8) (cs : List (Int × List UInt8)) (hrd : RdOk b cs) (p : Option Addr) (cp : Nat) (w : World) (he : Env w) (hB : BytesAt w p b) (hcp : b.length ≤ cp) (hlim : b.length ≤ 1000000) :
    Calls Tryz.prog 13 #[.slice p b.length cp] w fun e w' => ∃ v, e = .returned (.tuple #[v, .bool true]) ∧ IOut w.heap.size w' v cs ∧ Below w.heap.size w w' := by
  have H31 := Lib.hid (nmYes HT b cs hrd p cp w he hB hcp hlim)
  have hcl : cs.length ≤ 1000000 := by
    have := allBytes_len cs
    rw [← hrd.1] at this
    omega
  have H32 : Hid (∀ (bb cap : Nat) (w1 : World), Below w.heap.size w w1 → MAt w1 bb 0 cs → Calls Tryz.prog 32 #[.slice (some ⟨bb, 0, none⟩) cs.length cap] w1 fun e w' => ∃ v, e = .returned v ∧ IOut w.heap.size w' v cs ∧ Below w.heap.size w w') := Lib.hid fun bb cap w1 hb hm => by
    refine (componentsN cs hrd.2.1 hcl bb cap w1 hm).mono ?_
    rintro e w' ⟨v, rfl, ⟨b', cap', h1, h2, h3, h4, h5⟩, hb2⟩
    have hz := hb.size
    refine ⟨v, rfl, ⟨b', cap', h1, by omega, h3, h4, fun k hk => ?_⟩, hb.trans (hb2.mono hz)⟩
    obtain ⟨a1, g, cp, a2, a3, a4⟩ := h5 k hk
    exact ⟨a1, g, cp, a2, by omega, a4⟩
  clear he hB hrd
  generalize b.length = N at *
  go_enter Tryz.func13, Tryz.ntmps13
  go_wp2_with (first
    | (go_at_call 31; (with_reducible refine H31.out.mono ?_); rintro e w1 ⟨v, rfl, ⟨bb, cap, rfl, hb1, hb2, hb3, hma⟩, hb⟩)
    | (go_at_call 32; (with_reducible refine (H32.out _ _ _ hb hma).mono ?_); rintro e w2 ⟨v2, rfl, ho, hb'⟩))
  go_ret2
  exact ⟨_, rfl, ho, hb'⟩

set_option maxRecDepth 100000 in
set_option maxHeartbeats 4000000 in
theorem parseNo (HT : AllTrans) (b : List UInt8) (hrd : ¬ ∃ cs, RdOk b cs) (p : Option Addr) (cp : Nat) (w : World) (he : Env w) (hB : BytesAt w p b) (hcp : b.length ≤ cp) (hlim : b.length ≤ 1000000) :
    Calls Tryz.prog 13 #[.slice p b.length cp] w fun e w' => e = .returned (.tuple #[.slice none 0 0, .bool false]) ∧ Below w.heap.size w w' := by
  have H31 := Lib.hid (nmNo HT b hrd p cp w he hB hcp hlim)
  clear he hB hrd
  generalize b.length = N at *
  go_enter Tryz.func13, Tryz.ntmps13
  go_wp2_with (go_at_call 31; (with_reducible refine H31.out.mono ?_); rintro e w1 ⟨t, x, rfl, hb⟩)
  go_ret2
  exact ⟨rfl, hb⟩

set_option maxRecDepth 100000 in
set_option maxHeartbeats 4000000 in
theorem zzRead (HT : AllTrans) (b : List UInt8) (c : Int) (l : List UInt8) (hr : readC b = some (c, l)) (g o cp : Nat) (w : World) (he : Env w) (hc : At w g o b) (hcp : b.length ≤ cp) (hlim : b.length ≤ 1000000) :
    Calls Tryz.prog 35 #[.slice (some ⟨g, o, none⟩) b.length cp] w fun e w' => ∃ q, e = .returned (.tuple #[.int .i64 (compBytes c l).length, .pointer (some ⟨q, 0, none⟩), .nilIface]) ∧ CompK w.heap.size w' q c l ∧ Below w.heap.size w w' := by
  have H55 := Lib.hid (rc_all HT b g o cp w he hc hcp hlim)
  rw [hr] at H55
  clear he hc hr
  generalize b.length = N at *
  go_enter Tryz.func35, Tryz.ntmps35
  go_wp2_with (go_at_call 55; (with_reducible refine H55.out.mono ?_); rintro e w1 ⟨⟨q, rfl, hq⟩, hb⟩)
  go_ret3
  exact ⟨q, rfl, hq, hb⟩
end Go.Proofs.YtnpcmmjdojdmnaaGreatDoor
namespace Go.Proofs.YtnpcmmjdojdmnaaGreatDoor
open Go Go.RowKit Go.Sort

theorem idle54' (p : Addr) (w : World) :
    CallsD Tryz.prog 54 #[.pointer (some p)] .returning w fun e u' w' => e = .returned (.tuple #[]) ∧ u' = .returning ∧ w' = w := by
  refine callsD_of_wpS Tryz.func54 rfl fun c₀ cs hu => ?_
  have hq : ∀ w, (binOp .neq 20 .nilIface .nilIface).run Tryz.prog w = .ok (.bool false) w := fun _ => by kernel_rfl
  apply wpS_seq
  apply wpS_region
  simp [wpOpsS, go_sem, recoverD, hu, Tryz.ntmps54, Exit.thenS, hq]
  refine wpS_cond (t := false) (by simp [Act.eval]) ?_
  simp only [Bool.false_eq_true, if_false]
  refine wpS_of_wp (wp_skip ?_)
  cases c₀
  simp_all [bodyPostS, results, Tryz.results54]

/-- What the closure leaves: the component, its length, true. -/
structure Read34 (q1 q2 q3 : Nat) (c : Int) (l : List UInt8) (K : Nat) (w w' : World) : Prop where
  ex : ∃ g cp, w'.heap[q1]? = some (.cells #[.int .i64 c, .slice (some ⟨g, 0, none⟩) l.length cp] 24 (0, 0)) ∧ w.heap.size ≤ g ∧ g < w'.heap.size ∧ l.length ≤ cp ∧ At w' g 0 l
  c2 : w'.cell? ⟨q2, 0, none⟩ = some (.int .i64 K)
  f2 : w'.frozen? ⟨q2, 0, none⟩ = false
  c3 : w'.cell? ⟨q3, 0, none⟩ = some (.bool true)
  f3 : w'.frozen? ⟨q3, 0, none⟩ = false
  low : Below q1 w w'
  others : ∀ k, k < w.heap.size → k ≠ q1 → k ≠ q2 → k ≠ q3 → w'.heap[k]? = w.heap[k]?

set_option maxRecDepth 100000 in
set_option maxHeartbeats 4000000 in
theorem read34 (HT : AllTrans) (b : List UInt8) (c : Int) (l : List UInt8) (hr : readC b = some (c, l)) (g o cp a q1 q2 q3 : Nat) (y0 y1 : Value) (w : World) (he : Env w) (hc : At w g o b) (hcp : b.length ≤ cp) (hlim : b.length ≤ 1000000)
    (ha : w.cell? ⟨a, 0, none⟩ = some (.slice (some ⟨g, o, none⟩) b.length cp)) (h1 : w.heap[q1]? = some (.cells #[y0, y1] 24 (0, 0))) (h2 : w.cell? ⟨q2, 0, none⟩ = some (.int .i64 0)) (f2 : w.frozen? ⟨q2, 0, none⟩ = false) (h3 : w.cell? ⟨q3, 0, none⟩ = some (.bool false)) (f3 : w.frozen? ⟨q3, 0, none⟩ = false) (h12 : q1 < q2) (h23 : q2 < q3) :
    Calls Tryz.prog 34 #[.pointer (some ⟨a, 0, none⟩), .pointer (some ⟨q1, 0, none⟩), .pointer (some ⟨q2, 0, none⟩), .pointer (some ⟨q3, 0, none⟩)] w fun e w' => e = .returned (.tuple #[]) ∧ Read34 q1 q2 q3 c l (compBytes c l).length w w' := by
  have hq2 := World.block_lt_of_cell? w _ h2
  have hq3 := World.block_lt_of_cell? w _ h3
  have H35 := Lib.hid (zzRead HT b c l hr g o cp w he hc hcp hlim)
  have H36 : Hid (∀ (q : Nat) (w1 : World), CompK w.heap.size w1 q c l → Calls Tryz.prog 36 #[.pointer (some ⟨q, 0, none⟩)] w1 fun e w' => ∃ g cp, e = .returned (.agg #[.int .i64 c, .slice (some ⟨g, 0, none⟩) l.length cp]) ∧ w1.heap.size ≤ g ∧ g < w'.heap.size ∧ l.length ≤ cp ∧ At w' g 0 l ∧ Below w1.heap.size w1 w') := Lib.hid fun q w1 hk => by
    obtain ⟨_, _, pp, x0, x1, x2, hp⟩ := hk
    obtain ⟨_, _, _, _, _, p1, _⟩ := hp
    have := compOne q 0 pp (kst c l) c ⟨(compBytes c l).toArray⟩ ⟨l.toArray⟩ w1 x0 x1 x2 p1 (by rw [kst_head]; show _ ≤ (compBytes c l).toArray.size; rw [List.size_toArray, comp_head, List.length_append]; omega) (by rw [kst_head]; exact head_extract c l)
    have e : (⟨l.toArray⟩ : ByteArray).size = l.length := List.size_toArray ..
    rwa [e] at this
  obtain ⟨K, hK⟩ : ∃ K, K = (compBytes c l).length := ⟨_, rfl⟩
  rw [← hK] at H35 ⊢
  clear hr he hc hK
  generalize b.length = N at *
  go_enter Tryz.func34, Tryz.ntmps34
  go_wp2_with (first
    | (go_at_call 35; (with_reducible refine H35.out.mono ?_); rintro e w1 ⟨q, rfl, hq, hb1⟩)
    | (go_at_call 36; (with_reducible refine (H36.out q w1 hq).mono ?_); rintro e w2 ⟨g2, cp2, rfl, hg1, hg2, hcp2, hat, hb2⟩; refine Hid.out ?_))
  refine Lib.hid ?_
  have hbw : Below w.heap.size w w2 := hb1.trans (hb2.mono hb1.size)
  have hz := hb1.size
  have hq1 : q1 < w.heap.size := by omega
  have d1 : w2.heap[q1]? = some (.cells #[y0, y1] 24 (0, 0)) := (hbw.block q1 hq1).trans h1
  have d2 : w2.cell? ⟨q2, 0, none⟩ = some (.int .i64 0) := (hbw.cell (p := ⟨q2, 0, none⟩) hq2).trans h2
  have e2 : w2.frozen? ⟨q2, 0, none⟩ = false := (hbw.frozen (p := ⟨q2, 0, none⟩) hq2).trans f2
  have d3 : w2.cell? ⟨q3, 0, none⟩ = some (.bool false) := (hbw.cell (p := ⟨q3, 0, none⟩) hq3).trans h3
  have e3 : w2.frozen? ⟨q3, 0, none⟩ = false := (hbw.frozen (p := ⟨q3, 0, none⟩) hq3).trans f3
  have HI : Hid ((Tryz.prog.info? 24).map (·.size) = some 2) := Lib.hid (by kernel_rfl)
  have D1 := Lib.hid d1
  clear ha h1 h2 f2 h3 f3 hq d1 hb1 hb2
  have HALL := Lib.hid (And.intro hat (And.intro hg1 (And.intro hg2 (And.intro hcp2 hbw))))
  clear hat hg1 hg2 hbw
  go_wp2_with (first
    | (refine wpList_store_row rfl 24 (.tmp 1) (.tmp 16) rfl q1 _ rfl rfl 24 _ D1.out HI.out rfl (by simp [Value.oneCell']) ?_; refine Hid.out ?_))
  refine Lib.hid ?_
  have n21 : q2 ≠ q1 := by omega
  have n31 : q3 ≠ q1 := by omega
  have b2 := setRow_other w2 q1 q2 #[.int .i64 c, .slice (some ⟨g2, 0, none⟩) l.length cp2] n21
  have b3 := setRow_other w2 q1 q3 #[.int .i64 c, .slice (some ⟨g2, 0, none⟩) l.length cp2] n31
  have x2 := (World.cell?_of_block (a := ⟨q2, 0, none⟩) b2).trans d2
  have x3 := (World.cell?_of_block (a := ⟨q3, 0, none⟩) b3).trans d3
  have y2 := (World.frozen?_of_block (a := ⟨q2, 0, none⟩) b2).trans e2
  have y3 := (World.frozen?_of_block (a := ⟨q3, 0, none⟩) b3).trans e3
  obtain ⟨w3, hw3⟩ : ∃ w3, w3 = w2.setRow q1 #[.int .i64 c, .slice (some ⟨g2, 0, none⟩) l.length cp2] := ⟨_, rfl⟩
  have HW3 := Lib.hid hw3
  rw [← hw3] at x2 x3 y2 y3 ⊢
  clear d2 e2 d3 e3 b2 b3 hw3
  go_wp2
  refine ⟨rfl, .tuple #[], by simp [results, Tryz.results34], rfl, ?_⟩
  obtain ⟨hat, hg1, hg2, hcp2, hbw⟩ := HALL.out
  have hw3 := HW3.out
  have z2 : (w3.setCell ⟨q2, 0, none⟩ (.int .i64 K)).cell? ⟨q3, 0, none⟩ = some (.bool false) := by rw [World.cell?_setCell_other _ _ _ _ (by simp <;> omega)]; exact x3
  have other : ∀ k, k ≠ q1 → k ≠ q2 → k ≠ q3 → ((w3.setCell ⟨q2, 0, none⟩ (.int .i64 K)).setCell ⟨q3, 0, none⟩ (.bool true)).heap[k]? = w2.heap[k]? := fun k k1 k2 k3 => by
    rw [Below.heap_setCell _ ⟨q3, 0, none⟩ _ k k3, Below.heap_setCell _ ⟨q2, 0, none⟩ _ k k2, hw3, setRow_other _ _ _ _ k1]
  have hsz : ((w3.setCell ⟨q2, 0, none⟩ (.int .i64 K)).setCell ⟨q3, 0, none⟩ (.bool true)).heap.size = w2.heap.size := by simp [World.setCell, hw3, setRow_size]
  have hz1 := hbw.size
  refine ⟨⟨g2, cp2, ?_, by omega, by rw [hsz]; exact hg2, hcp2, fun j hj => ?_⟩, ?_, ?_, ?_, ?_, ?_, ?_⟩
  · rw [Below.heap_setCell _ ⟨q3, 0, none⟩ _ q1 (fun e => n31 e.symm), Below.heap_setCell _ ⟨q2, 0, none⟩ _ q1 (fun e => n21 e.symm), hw3]
    exact setRow_heap _ _ _ _ _ _ D1.out
  · rw [World.cell?_of_block (w := w2) (other g2 (by omega) (by omega) (by omega))]
    exact hat j hj
  · rw [World.cell?_setCell_other _ _ _ _ (by simp <;> omega)]
    exact World.cell?_setCell_same _ _ _ x2
  · rw [World.frozen?_setCell, World.frozen?_setCell]; exact y2
  · exact World.cell?_setCell_same _ _ _ z2
  · rw [World.frozen?_setCell, World.frozen?_setCell]; exact y3
  · have h2 : Below q1 w w3 := by rw [hw3]; exact below_setRow (hbw.mono (Nat.le_of_lt hq1)) (Nat.le_refl _) _
    exact (h2.setCell (by show q1 ≤ q2; omega) _).setCell (by show q1 ≤ q3; omega) _
  · intro k hk k1 k2 k3
    rw [other k k1 k2 k3]
    exact hbw.block k hk

theorem results33' (tmps : Array Value) (w : World) (g : Nat) (b : Bool) (hp : tmps.getD 2 undef = .pointer (some ⟨g, 0, none⟩)) (hg : w.cell? ⟨g, 0, none⟩ = some (.bool b)) : (results Tryz.f33 tmps).run Tryz.prog w = .ok (.bool b) w := by
  have hp' : tmps[2]?.getD undef = .pointer (some ⟨g, 0, none⟩) := by simpa using hp
  simp [results, Tryz.results33, hp', go_sem, hg]

set_option maxRecDepth 100000 in
set_option maxHeartbeats 4000000 in
theorem safe34 (a q1 q2 q3 : Nat) (c : Int) (l : List UInt8) (K : Nat) (w : World) (h1 : q1 < w.heap.size) (h2 : q2 < w.heap.size) (h3 : q3 < w.heap.size)
    (H : ∀ o', Calls Tryz.prog 34 #[.pointer (some ⟨a, 0, none⟩), .pointer (some ⟨q1, 0, none⟩), .pointer (some ⟨q2, 0, none⟩), .pointer (some ⟨q3, 0, none⟩)] (w.alloc o') fun e w' => e = .returned (.tuple #[]) ∧ Read34 q1 q2 q3 c l K (w.alloc o') w') :
    Calls Tryz.prog 33 #[.func (.func 34) #[] #[.pointer (some ⟨a, 0, none⟩), .pointer (some ⟨q1, 0, none⟩), .pointer (some ⟨q2, 0, none⟩), .pointer (some ⟨q3, 0, none⟩)]] w fun e w' => e = .returned (.bool true) ∧ Read34 q1 q2 q3 c l K w w' := by
  have hmf : ∀ (fn : Fn) (first cap : Array Value) (w : World), (Instr.makeFunc fn first cap).run Tryz.prog w = .ok (.func fn first cap) w := fun _ _ _ _ => rfl
  have HH := Lib.hid H; clear H
  go_enter_defers Tryz.func33, Tryz.ntmps33
  go_wp2_with (go_at_call 34; (with_reducible refine (HH.out _).mono ?_); rintro e w2 ⟨rfl, hR⟩; refine Hid.out ?_)
  refine Lib.hid ?_
  have hbx := hR.others w.heap.size (by simp) (by omega) (by omega) (by omega)
  have d0 : w2.cell? ⟨w.heap.size, 0, none⟩ = some (.bool false) := (World.cell?_of_block (a := ⟨w.heap.size, 0, none⟩) hbx).trans (by simp [go_sem])
  have df : w2.frozen? ⟨w.heap.size, 0, none⟩ = false := (World.frozen?_of_block (a := ⟨w.heap.size, 0, none⟩) hbx).trans (by simp [go_sem])
  have d1 : (w2.setCell ⟨w.heap.size, 0, none⟩ (.bool true)).cell? ⟨w.heap.size, 0, none⟩ = some (.bool true) := World.cell?_setCell_same _ _ _ d0
  have hend : Read34 q1 q2 q3 c l K w (w2.setCell ⟨w.heap.size, 0, none⟩ (.bool true)) := by
    obtain ⟨⟨g, cp, x1, x2, x3, x4, x5⟩, c2, f2, c3, f3, low, others⟩ := hR
    have ho : ∀ k, k ≠ w.heap.size → (w2.setCell ⟨w.heap.size, 0, none⟩ (.bool true)).heap[k]? = w2.heap[k]? := fun k hk => Below.heap_setCell _ ⟨w.heap.size, 0, none⟩ _ k hk
    simp at x2
    refine ⟨⟨g, cp, (ho q1 (by omega)).trans x1, by omega, by simpa [World.setCell] using x3, x4, fun j hj => (World.cell?_of_block (a := ⟨g, 0 + j, none⟩) (ho g (by omega))).trans (x5 j hj)⟩, (World.cell?_of_block (a := ⟨q2, 0, none⟩) (ho q2 (by omega))).trans c2, by rw [World.frozen?_setCell]; exact f2, (World.cell?_of_block (a := ⟨q3, 0, none⟩) (ho q3 (by omega))).trans c3, by rw [World.frozen?_setCell]; exact f3, ?_, ?_⟩
    · exact (((Below.refl _ _).alloc (Nat.le_of_lt h1) _).trans low).setCell (by show q1 ≤ w.heap.size; omega) _
    · intro k hk k1 k2 k3
      rw [ho k (by omega), others k (by simp; omega) k1 k2 k3]
      exact ((Below.refl w.heap.size w).alloc (Nat.le_refl _) _).block k hk
  have HEND := Lib.hid hend
  clear hend hR hbx
  go_wp2
  refine leaves_cons (f := 54) (args := #[.pointer (some ⟨w.heap.size, 0, none⟩)]) (by simp) (by simp [go_sem]) ?_
  refine (idle54' ⟨w.heap.size, 0, none⟩ _).mono ?_
  rintro e u' w'' ⟨rfl, rfl, rfl⟩
  generalize w2.setCell ⟨w.heap.size, 0, none⟩ (.bool true) = w5 at *
  simp [Leaves, settle, results, Tryz.results33, go_sem, d1]
  exact HEND.out
end Go.Proofs.YtnpcmmjdojdmnaaGreatDoor
namespace Go.Proofs.YtnpcmmjdojdmnaaGreatDoor
open Go Go.RowKit Go.Sort

theorem results14 (tmps : Array Value) (w : World) (q1 q2 q3 : Nat) (x y : Value) (K : Int) (b : Bool) (hp2 : tmps.getD 2 undef = .pointer (some ⟨q1, 0, none⟩)) (hp3 : tmps.getD 3 undef = .pointer (some ⟨q2, 0, none⟩)) (hp4 : tmps.getD 4 undef = .pointer (some ⟨q3, 0, none⟩))
    (h0 : w.cell? ⟨q1, 0, none⟩ = some x) (h1 : w.cell? ⟨q1, 1, none⟩ = some y) (h2 : w.cell? ⟨q2, 0, none⟩ = some (.int .i64 K)) (h3 : w.cell? ⟨q3, 0, none⟩ = some (.bool b)) : (results Tryz.f14 tmps).run Tryz.prog w = .ok (.tuple #[.agg #[x, y], .int .i64 K, .bool b]) w := by
  have hp2' : tmps[2]?.getD undef = .pointer (some ⟨q1, 0, none⟩) := by simpa using hp2
  have hp3' : tmps[3]?.getD undef = .pointer (some ⟨q2, 0, none⟩) := by simpa using hp3
  have hp4' : tmps[4]?.getD undef = .pointer (some ⟨q3, 0, none⟩) := by simpa using hp4
  simp [results, Tryz.results14, hp2', hp3', hp4', asAddr, go_sem, h0, h1, h2, h3]

set_option maxRecDepth 100000 in
set_option maxHeartbeats 4000000 in
theorem maReadOne (HT : AllTrans) (b : List UInt8) (c : Int) (l : List UInt8) (hr : readC b = some (c, l)) (g o cp : Nat) (w : World) (he : Env w) (hc : At w g o b) (hg : g < w.heap.size) (hcp : b.length ≤ cp) (hlim : b.length ≤ 1000000) :
    Calls Tryz.prog 14 #[.slice (some ⟨g, o, none⟩) b.length cp] w fun e w' => ∃ g2 cp2, e = .returned (.tuple #[.agg #[.int .i64 c, .slice (some ⟨g2, 0, none⟩) l.length cp2], .int .i64 (compBytes c l).length, .bool true]) ∧ w.heap.size ≤ g2 ∧ g2 < w'.heap.size ∧ l.length ≤ cp2 ∧ At w' g2 0 l ∧ Below w.heap.size w w' := by
  have hmf : ∀ (fn : Fn) (first cap : Array Value) (w : World), (Instr.makeFunc fn first cap).run Tryz.prog w = .ok (.func fn first cap) w := fun _ _ _ _ => rfl
  have HS : Hid (Calls Tryz.prog 33 #[.func (.func 34) #[] #[.pointer (some ⟨w.heap.size, 0, none⟩), .pointer (some ⟨w.heap.size + 1, 0, none⟩), .pointer (some ⟨w.heap.size + 2, 0, none⟩), .pointer (some ⟨w.heap.size + 3, 0, none⟩)]]
      ((((w.alloc (.cells #[.slice (some ⟨g, o, none⟩) b.length cp] 22)).alloc (.cells #[.int .i64 0, .slice none 0 0] 24)).alloc (.cells #[.int .i64 0] 3)).alloc (.cells #[.bool false] 4)) fun e w' => e = .returned (.bool true) ∧
      Read34 (w.heap.size + 1) (w.heap.size + 2) (w.heap.size + 3) c l (compBytes c l).length ((((w.alloc (.cells #[.slice (some ⟨g, o, none⟩) b.length cp] 22)).alloc (.cells #[.int .i64 0, .slice none 0 0] 24)).alloc (.cells #[.int .i64 0] 3)).alloc (.cells #[.bool false] 4)) w') := Lib.hid (by
    have hb4 : Below w.heap.size w ((((w.alloc (.cells #[.slice (some ⟨g, o, none⟩) b.length cp] 22)).alloc (.cells #[.int .i64 0, .slice none 0 0] 24)).alloc (.cells #[.int .i64 0] 3)).alloc (.cells #[.bool false] 4)) :=
      ((((Below.refl _ _).alloc (Nat.le_refl _) _).alloc (by simp) _).alloc (by simp <;> omega) _).alloc (by simp <;> omega) _
    refine safe34 _ _ _ _ c l _ _ (by simp <;> omega) (by simp <;> omega) (by simp) (fun o' => ?_)
    have hb5 := hb4.alloc (o := o') hb4.size
    have HQ1 : (((((w.alloc (.cells #[.slice (some ⟨g, o, none⟩) b.length cp] 22)).alloc (.cells #[.int .i64 0, .slice none 0 0] 24)).alloc (.cells #[.int .i64 0] 3)).alloc (.cells #[.bool false] 4)).alloc o').heap[w.heap.size + 1]? = some (.cells #[.int .i64 0, .slice none 0 0] 24 (0, 0)) := by
      have e1 := heap_alloc_last (w.alloc (.cells #[.slice (some ⟨g, o, none⟩) b.length cp] 22)) (.cells #[.int .i64 0, .slice none 0 0] 24)
      have hbx : Below (w.heap.size + 2) ((w.alloc (.cells #[.slice (some ⟨g, o, none⟩) b.length cp] 22)).alloc (.cells #[.int .i64 0, .slice none 0 0] 24)) (((((w.alloc (.cells #[.slice (some ⟨g, o, none⟩) b.length cp] 22)).alloc (.cells #[.int .i64 0, .slice none 0 0] 24)).alloc (.cells #[.int .i64 0] 3)).alloc (.cells #[.bool false] 4)).alloc o') :=
        (((Below.refl _ _).alloc (by simp) _).alloc (by simp <;> omega) _).alloc (by simp <;> omega) _
      have e2 : (w.alloc (.cells #[.slice (some ⟨g, o, none⟩) b.length cp] 22)).heap.size = w.heap.size + 1 := by simp
      rw [e2] at e1
      exact (hbx.block (w.heap.size + 1) (by omega)).trans e1
    exact read34 HT b c l hr g o cp w.heap.size (w.heap.size + 1) (w.heap.size + 2) (w.heap.size + 3) (.int .i64 0) (.slice none 0 0) _ (he.up hb5) (hc.below hb5 hg) hcp hlim (by simp [go_sem]) HQ1 (by simp [go_sem]) (by simp [go_sem]) (by simp [go_sem]) (by simp [go_sem]) (by omega) (by omega))
  obtain ⟨K, hK⟩ : ∃ K, K = (compBytes c l).length := ⟨_, rfl⟩
  rw [← hK] at HS ⊢
  clear hr he hc hK
  generalize b.length = N at *
  go_enter Tryz.func14, Tryz.ntmps14
  go_wp2_with (go_at_call 33; (with_reducible refine HS.out.mono ?_); rintro e w5 ⟨rfl, hR⟩; refine Hid.out ?_)
  refine Lib.hid ?_
  obtain ⟨⟨g2, cp2, h1, hg1, hg2, hcp2, hat⟩, c2, f2, c3, f3, low, others⟩ := hR
  have d0 : w5.cell? ⟨w.heap.size + 1, 0, none⟩ = some (.int .i64 c) := by simp [World.cell?, h1]
  have d1 : w5.cell? ⟨w.heap.size + 1, 1, none⟩ = some (.slice (some ⟨g2, 0, none⟩) l.length cp2) := by simp [World.cell?, h1]
  have g0 : w5.frozen? ⟨w.heap.size + 1, 0, none⟩ = false := by simp [World.frozen?, h1]
  have g1 : w5.frozen? ⟨w.heap.size + 1, 1, none⟩ = false := by simp [World.frozen?, h1]
  have HR := Lib.hid (And.intro h1 (And.intro hg1 (And.intro hg2 (And.intro hat low))))
  clear h1 hg1 hg2 hat low others
  go_wp2
  go_region
  go_wp2
  obtain ⟨h1, hg1, hg2, hat, low⟩ := HR.out
  have e4 : ((((w.alloc (.cells #[.slice (some ⟨g, o, none⟩) N cp] 22)).alloc (.cells #[.int .i64 0, .slice none 0 0] 24)).alloc (.cells #[.int .i64 0] 3)).alloc (.cells #[.bool false] 4)).heap.size = w.heap.size + 4 := by simp
  rw [e4] at hg1
  have k1 : (w5.setCell ⟨w.heap.size + 1, 0, none⟩ (.int .i64 c)).heap[w.heap.size + 1]? = some (.cells #[.int .i64 c, .slice (some ⟨g2, 0, none⟩) l.length cp2] 24 (0, 0)) := by
    rw [setCell_eq_setRow _ _ _ _ 24 (0, 0) _ h1]
    exact setRow_heap _ _ _ _ _ _ h1
  have k2 : ((w5.setCell ⟨w.heap.size + 1, 0, none⟩ (.int .i64 c)).setCell ⟨w.heap.size + 1, 1, none⟩ (.slice (some ⟨g2, 0, none⟩) l.length cp2)).heap[w.heap.size + 1]? = some (.cells #[.int .i64 c, .slice (some ⟨g2, 0, none⟩) l.length cp2] 24 (0, 0)) := by
    rw [setCell_eq_setRow _ _ _ _ 24 (0, 0) _ k1]
    exact setRow_heap _ _ _ _ _ _ k1
  obtain ⟨w6, hw6⟩ : ∃ w6, w6 = (w5.setCell ⟨w.heap.size + 1, 0, none⟩ (.int .i64 c)).setCell ⟨w.heap.size + 1, 1, none⟩ (.slice (some ⟨g2, 0, none⟩) l.length cp2) := ⟨_, rfl⟩
  have o6 : ∀ k, k ≠ w.heap.size + 1 → w6.heap[k]? = w5.heap[k]? := fun k hk => by
    rw [hw6, Below.heap_setCell _ ⟨w.heap.size + 1, 1, none⟩ _ k hk, Below.heap_setCell _ ⟨w.heap.size + 1, 0, none⟩ _ k hk]
  have s6 : w6.heap.size = w5.heap.size := by rw [hw6]; simp [World.setCell]
  have l6 : Below w.heap.size w w6 := by
    have hb4 : Below w.heap.size w ((((w.alloc (.cells #[.slice (some ⟨g, o, none⟩) N cp] 22)).alloc (.cells #[.int .i64 0, .slice none 0 0] 24)).alloc (.cells #[.int .i64 0] 3)).alloc (.cells #[.bool false] 4)) :=
      ((((Below.refl _ _).alloc (Nat.le_refl _) _).alloc (by simp) _).alloc (by simp <;> omega) _).alloc (by simp <;> omega) _
    rw [hw6]
    exact ((hb4.trans (low.mono (Nat.le_succ _))).setCell (Nat.le_succ _) _).setCell (Nat.le_succ _) _
  rw [← hw6] at k2 ⊢
  have p2 : w6.cell? ⟨w.heap.size + 2, 0, none⟩ = some (.int .i64 K) := (World.cell?_of_block (a := ⟨w.heap.size + 2, 0, none⟩) (o6 (w.heap.size + 2) (by omega))).trans c2
  have p3 : w6.cell? ⟨w.heap.size + 3, 0, none⟩ = some (.bool true) := (World.cell?_of_block (a := ⟨w.heap.size + 3, 0, none⟩) (o6 (w.heap.size + 3) (by omega))).trans c3
  have r2 : (w6.setCell ⟨w.heap.size + 2, 0, none⟩ (.int .i64 K)).cell? ⟨w.heap.size + 2, 0, none⟩ = some (.int .i64 K) := World.cell?_setCell_same _ _ _ p2
  have r3 : (w6.setCell ⟨w.heap.size + 2, 0, none⟩ (.int .i64 K)).cell? ⟨w.heap.size + 3, 0, none⟩ = some (.bool true) := by rw [World.cell?_setCell_other _ _ _ _ (by simp <;> omega)]; exact p3
  have t2 : ((w6.setCell ⟨w.heap.size + 2, 0, none⟩ (.int .i64 K)).setCell ⟨w.heap.size + 3, 0, none⟩ (.bool true)).cell? ⟨w.heap.size + 2, 0, none⟩ = some (.int .i64 K) := by rw [World.cell?_setCell_other _ _ _ _ (by simp <;> omega)]; exact r2
  have t3 : ((w6.setCell ⟨w.heap.size + 2, 0, none⟩ (.int .i64 K)).setCell ⟨w.heap.size + 3, 0, none⟩ (.bool true)).cell? ⟨w.heap.size + 3, 0, none⟩ = some (.bool true) := World.cell?_setCell_same _ _ _ r3
  have t1 : ((w6.setCell ⟨w.heap.size + 2, 0, none⟩ (.int .i64 K)).setCell ⟨w.heap.size + 3, 0, none⟩ (.bool true)).heap[w.heap.size + 1]? = some (.cells #[.int .i64 c, .slice (some ⟨g2, 0, none⟩) l.length cp2] 24 (0, 0)) := by
    rw [Below.heap_setCell _ ⟨w.heap.size + 3, 0, none⟩ _ _ (by show w.heap.size + 1 ≠ w.heap.size + 3; omega), Below.heap_setCell _ ⟨w.heap.size + 2, 0, none⟩ _ _ (by show w.heap.size + 1 ≠ w.heap.size + 2; omega)]
    exact k2
  have ta : At ((w6.setCell ⟨w.heap.size + 2, 0, none⟩ (.int .i64 K)).setCell ⟨w.heap.size + 3, 0, none⟩ (.bool true)) g2 0 l := fun j hj => by
    refine (World.cell?_of_block (a := ⟨g2, 0 + j, none⟩) ?_).trans (hat j hj)
    show _ = w5.heap[g2]?
    rw [Below.heap_setCell _ ⟨w.heap.size + 3, 0, none⟩ _ _ (by show g2 ≠ w.heap.size + 3; omega), Below.heap_setCell _ ⟨w.heap.size + 2, 0, none⟩ _ _ (by show g2 ≠ w.heap.size + 2; omega), o6 g2 (by omega)]
  have tb : Below w.heap.size w ((w6.setCell ⟨w.heap.size + 2, 0, none⟩ (.int .i64 K)).setCell ⟨w.heap.size + 3, 0, none⟩ (.bool true)) := (l6.setCell (by show w.heap.size ≤ w.heap.size + 2; omega) _).setCell (by show w.heap.size ≤ w.heap.size + 3; omega) _
  have ts : ((w6.setCell ⟨w.heap.size + 2, 0, none⟩ (.int .i64 K)).setCell ⟨w.heap.size + 3, 0, none⟩ (.bool true)).heap.size = w5.heap.size := by simp [World.setCell, s6]
  generalize (w6.setCell ⟨w.heap.size + 2, 0, none⟩ (.int .i64 K)).setCell ⟨w.heap.size + 3, 0, none⟩ (.bool true) = w7 at *
  refine bodyPost_ret (v := .tuple #[.agg #[.int .i64 c, .slice (some ⟨g2, 0, none⟩) l.length cp2], .int .i64 K, .bool true]) (results14 _ w7.drew (w.heap.size + 1) (w.heap.size + 2) (w.heap.size + 3) (.int .i64 c) (.slice (some ⟨g2, 0, none⟩) l.length cp2) K true rfl rfl rfl (show w7.cell? _ = _ by simp [World.cell?, t1]) (show w7.cell? _ = _ by simp [World.cell?, t1]) t2 t3) rfl ?_
  exact ⟨g2, cp2, rfl, by omega, by rw [← ts] at hg2; exact hg2, hcp2, ta, tb.drew⟩
end Go.Proofs.YtnpcmmjdojdmnaaGreatDoor
namespace Go.Proofs.YtnpcmmjdojdmnaaGreatDoor
open Go Go.RowKit Go.Sort

theorem byteVals_snoc (l : List UInt8) (b : UInt8) : byteVals (l ++ [b]) = byteVals l ++ [.int .u8 b.toNat] := by simp [byteVals]

set_option maxRecDepth 100000 in
set_option maxHeartbeats 4000000 in
theorem maVarint (n : Nat) (hn : n < 9223372036854775808) (w : World) :
    Calls Tryz.prog 37 #[.int .u64 n] w fun e w' => ∃ v, e = .returned v ∧ w'.ownsRow w.heap.size 5 1 v (Lib.uvarint n).length (byteVals (Lib.uvarint n)) ∧ Below w.heap.size w w' := by
  obtain ⟨i0, hi, hz0, hz1, hz2⟩ := info_parts info5
  have hul : (Lib.uvarint n).length ≤ 10 := Lib.uvarint_length64 (by omega)
  have HUL := Lib.hid hul
  clear hul
  go_enter Tryz.func37, Tryz.ntmps37
  go_wp2
  go_loopw [0, 3] (fun v0 v3 wr => ∃ (m : Nat) (pre : List UInt8), v0 = .int .u64 m ∧ m < 9223372036854775808 ∧ wr.ownsRow w.heap.size 5 1 v3 pre.length (byteVals pre) ∧ Hid (Lib.uvarint n = pre ++ Lib.uvarint m) ∧ Below w.heap.size w wr) (fun v0 _ _ => (intOf v0).toNat)
  case atStart => exact ⟨n, [], rfl, hn, World.ownsRow_nil _ _ _ _, Lib.hid rfl, Below.refl _ _⟩
  case round =>
    obtain ⟨m, pre, rfl, hm, hown, hpre, hbl⟩ := hrel
    have hz := hbl.size
    have hlen : pre.length ≤ 10 := by
      have := congrArg List.length hpre.out
      rw [List.length_append] at this
      have := HUL.out
      omega
    by_cases h128 : m < 128
    · have e1 : decide (128 ≤ (m : Int)) = false := by simp; omega
      have e2 : IntKind.u8.wrap (m : Int) = m := by rw [IntKind.wrap_u8]; omega
      go_wp2_with (at_builtin; refine wpList_append_own _ rfl (.tmp 15) (.tmp 18) 22 rfl w.heap.size 5 i0 (.int .u8 0) 1 1 Tryz.underlying22 hi hz0 hz1 hz2 rfl (by decide) _ _ _ rfl (hown.alloc _) ⟨wr.heap.size, 0, none⟩ 1 1 [.int .u8 m] rfl rfl (cell_one_new _ _ _) ?c2 ?c3 ?c4 ?c5 ?_)
      case c2 =>
        intro u hu
        simp only [List.mem_cons, List.not_mem_nil, or_false] at hu
        subst hu; rfl
      case c3 => unfold maxLen; omega
      case c4 => omega
      case c5 => simp; omega
      intro v' w3 hown3 hgrow _
      have hb3 : Below w.heap.size w w3 := (hbl.alloc hz _).grown hgrow (by simp; omega) (fun k hk => (hown.lt k hk).1)
      have hm8 : ((m.toUInt8).toNat : Int) = m := by simp; omega
      have hE := Lib.hid (show Lib.uvarint n = pre ++ [m.toUInt8] by rw [hpre.out, Lib.uvarint_small h128])
      have hO : Hid (w3.ownsRow w.heap.size 5 1 v' (Lib.uvarint n).length (byteVals (Lib.uvarint n))) := Lib.hid (by
        rw [hE.out, List.length_append, byteVals_snoc, hm8]
        exact hown3)
      clear hown3 hgrow hown
      go_wp2
      go_ret
      exact ⟨_, rfl, hO.out, hb3⟩
    · have e1 : decide (128 ≤ (m : Int)) = true := by simp; omega
      go_wp2_with (at_builtin; refine wpList_append_own _ rfl (.tmp 6) (.tmp 11) 22 rfl w.heap.size 5 i0 (.int .u8 0) 1 1 Tryz.underlying22 hi hz0 hz1 hz2 rfl (by decide) _ _ _ rfl (hown.alloc _) ⟨wr.heap.size, 0, none⟩ 1 1 [.int .u8 ((m : Int) % 128 + 128)] rfl rfl (cell_one_new _ _ _) ?c2 ?c3 ?c4 ?c5 ?_)
      case c2 =>
        intro u hu
        simp only [List.mem_cons, List.not_mem_nil, or_false] at hu
        subst hu; rfl
      case c3 => unfold maxLen; omega
      case c4 => omega
      case c5 => simp; omega
      intro v' w3 hown3 hgrow _
      have hb3 : Below w.heap.size w w3 := (hbl.alloc hz _).grown hgrow (by simp; omega) (fun k hk => (hown.lt k hk).1)
      have hm8 : (((m % 128 + 128).toUInt8).toNat : Int) = (m : Int) % 128 + 128 := by simp; omega
      have hE := Lib.hid (show Lib.uvarint n = (pre ++ [(m % 128 + 128).toUInt8]) ++ Lib.uvarint (m / 128) by rw [hpre.out, Lib.uvarint_big (by omega), List.append_assoc]; rfl)
      have hO : Hid (w3.ownsRow w.heap.size 5 1 v' (pre ++ [(m % 128 + 128).toUInt8]).length (byteVals (pre ++ [(m % 128 + 128).toUInt8]))) := Lib.hid (by
        rw [List.length_append, byteVals_snoc, hm8]
        exact hown3)
      clear hown3 hgrow hown
      go_wp2
      refine ⟨⟨m / 128, pre ++ [(m % 128 + 128).toUInt8], by first | rfl | (congr 1; omega), by omega, hO.out, hE, hb3⟩, ?_⟩
      simp [intOf]
      omega
end Go.Proofs.YtnpcmmjdojdmnaaGreatDoor
namespace Go.Proofs.YtnpcmmjdojdmnaaGreatDoor
open Go Go.RowKit Go.Sort

theorem own_at {w : World} {base : Nat} {v : Value} {l : List UInt8} (h : w.ownsRow base 5 1 v l.length (byteVals l)) (hl : 0 < l.length) : ∃ g cap, v = .slice (some ⟨g, 0, none⟩) l.length cap ∧ base ≤ g ∧ g < w.heap.size ∧ At w g 0 l := by
  rcases h.2 with ⟨_, h0⟩ | ⟨g, cap, cur, hv, hbase, hheap, hle, hmax, hcur, htake⟩
  · omega
  subst hv
  refine ⟨g, cap, rfl, hbase, (h.lt g rfl).2, fun j hj => ?_⟩
  have := h.cells (g := g) rfl j (.int .u8 l[j].toNat) (by simp [byteVals, hj])
  rwa [Addr.add_lit] at this

theorem src_at {w : World} {g : Nat} {l : List UInt8} (h : At w g 0 l) (c : Nat) : Src Tryz.prog 1 22 (.slice (some ⟨g, 0, none⟩) l.length c) l.length (byteVals l) w := by
  refine Src.ofSlice _ Tryz.underlying22 ⟨g, 0, none⟩ _ _ _ (by rw [byteVals_length]; omega) (fun j u hu => ?_) (byteVals_one _)
  obtain ⟨hj, rfl⟩ := byteVals_get hu
  rw [Addr.add_lit]
  exact h j hj

set_option maxRecDepth 100000 in
set_option maxHeartbeats 8000000 in
theorem maBytes1 (n : Nat) (l : List UInt8) (hk : known (n : Int) = true) (hl : l.length ≤ 1000000) (g o cp g2 cp2 : Nat) (w : World) (h0 : w.cell? ⟨g, o, none⟩ = some (.int .i64 n)) (h1 : w.cell? ⟨g, o + 1, none⟩ = some (.slice (some ⟨g2, 0, none⟩) l.length cp2)) (hat : At w g2 0 l) (hg2 : g2 < w.heap.size) :
    Calls Tryz.prog 15 #[.slice (some ⟨g, o, none⟩) 1 cp] w fun e w' => ∃ v, e = .returned v ∧ w'.ownsRow w.heap.size 5 1 v (compBytes n l).length (byteVals (compBytes n l)) ∧ Below w.heap.size w w' := by
  obtain ⟨i0, hi, hz0, hz1, hz2⟩ := info_parts info5
  have HM := Lib.hid (maProtocol (n : Int))
  have hn := (uvarint_code hk).1
  rw [Int.toNat_natCast] at hn
  have hlu : (Lib.uvarint n).length ≤ 10 := Lib.uvarint_length64 (by omega)
  have hll : (Lib.uvarint l.length).length ≤ 10 := Lib.uvarint_length64 (by omega)
  have HV := Lib.hid (fun wx => maVarint n (by omega) wx)
  have HV2 := Lib.hid (fun wx => maVarint l.length (by omega) wx)
  have e1 : IntKind.u64.wrap (n : Int) = n := IntWalk.u64_in _ (by omega)
  have e2 : IntKind.u64.wrap (l.length : Int) = l.length := IntWalk.u64_in _ (by omega)
  have hup := Lib.uvarint_pos n
  have hup2 := Lib.uvarint_pos l.length
  have HCB : Hid (compBytes n l = Lib.uvarint n ++ (if psz (n : Int) < 0 then Lib.uvarint l.length else []) ++ l) := Lib.hid (by rw [compBytes, Int.toNat_natCast])
  have HAT := Lib.hid (And.intro hat hg2)
  have hgw := World.block_lt_of_cell? w _ h0
  have c0 : (w.alloc (.cells #[] 5)).cell? ⟨g, o, none⟩ = some (.int .i64 n) := (World.cell?_alloc_past _ _ _ hgw).trans h0
  have c1 : (w.alloc (.cells #[] 5)).cell? ⟨g, o + 1, none⟩ = some (.slice (some ⟨g2, 0, none⟩) l.length cp2) := (World.cell?_alloc_past _ _ _ hgw).trans h1
  clear hat hk
  generalize pname (n : Int) = nm at *
  generalize pcode (n : Int) = pc at *
  generalize ppath (n : Int) = pth at *
  generalize psz (n : Int) = z at *
  go_enter Tryz.func15, Tryz.ntmps15
  go_wp2
  refine wp_loop_rounds 2 ?_
  rw [rounds_succ]
  go_wp2_with (first
    | (go_at_call 24; (with_reducible refine (HM.out _).mono ?_); rintro e w2 ⟨rfl, hb2⟩; obtain ⟨hc2, hf2⟩ := bcell hb2; have hz2' : w.heap.size + 1 < w2.heap.size := (by have := hb2.size; simp at this; omega))
    | (go_at_call 37; (with_reducible refine (HV.out _).mono ?_); rintro e w3 ⟨v3, rfl, hv3, hb3⟩; refine Hid.out ?_))
  refine Lib.hid ?_
  obtain ⟨g3, cap3, rfl, hg3a, hg3b, hat3⟩ := own_at hv3 hup
  obtain ⟨W2, hW2⟩ : ∃ W2, W2 = w2.alloc (.cells #[.string nm, .int .i64 pc, .int .i64 z, .bool pth, .slice none 0 0] 43) := ⟨_, rfl⟩
  have hs2 : W2.heap.size = w2.heap.size + 1 := by rw [hW2]; simp
  have H1 : Has ((w.alloc (.cells #[] 5)).alloc (.cells #[.int .i64 n, .slice (some ⟨g2, 0, none⟩) l.length cp2] 24)) [(w.heap.size + 1, 0, .int .i64 n), (w.heap.size + 1, 1, .slice (some ⟨g2, 0, none⟩) l.length cp2)] := by
    intro x hx
    simp only [List.mem_cons, List.not_mem_nil, or_false] at hx
    rcases hx with rfl | rfl <;> simp [go_sem]
  have H2 : Has W2 [(w.heap.size + 1, 0, .int .i64 n), (w.heap.size + 1, 1, .slice (some ⟨g2, 0, none⟩) l.length cp2), (w2.heap.size, 2, .int .i64 z)] := by
    have h := (H1.belowS hb2).alloc (.cells #[.string nm, .int .i64 pc, .int .i64 z, .bool pth, .slice none 0 0] 43)
    rw [hW2]
    intro x hx
    simp only [List.mem_cons, List.not_mem_nil, or_false] at hx
    rcases hx with rfl | rfl | rfl
    · exact h _ (by simp)
    · exact h _ (by simp)
    · simp [go_sem]
  have hown0 : W2.ownsRow w.heap.size 5 1 (.slice (some ⟨w.heap.size, 0, none⟩) 0 0) 0 (byteVals []) := by
    rw [hW2]
    exact (((owns_empty w (Nat.le_refl _)).alloc _).kept (row := none) ⟨hb2.os, hb2.tape, hb2.output, hb2.size, fun k hk _ => hb2.block k hk⟩ (Or.inr (by simp [Value.ownBlock]))).alloc _
  have hbW2 : Below w.heap.size w W2 := by
    rw [hW2]
    exact ((((Below.refl _ _).alloc (Nat.le_refl _) _).alloc (by simp) _).trans (hb2.mono (by simp <;> omega))).alloc (by omega) _
  rw [← hW2] at hv3 hb3 hg3a
  have H3 := H2.belowS hb3
  have hown3 : w3.ownsRow w.heap.size 5 1 (.slice (some ⟨w.heap.size, 0, none⟩) 0 0) 0 (byteVals []) := hown0.kept (row := none) ⟨hb3.os, hb3.tape, hb3.output, hb3.size, fun k hk _ => hb3.block k hk⟩ (Or.inr (by simp [Value.ownBlock]))
  have hbw3 : Below w.heap.size w w3 := hbW2.trans (hb3.mono hbW2.size)
  have hz3 := hb3.size
  clear hown0 hv3 hb3 hb2 H1 H2 hc2 hf2 hW2 c0 c1 h0 h1 hbW2
  go_wp2_with (at_builtin; refine wpList_append_src_own _ rfl (.tmp 21) (.tmp 25) 22 22 rfl w.heap.size 5 i0 (.int .u8 0) 1 1 Tryz.underlying22 hi hz0 hz1 hz2 rfl w.heap.size 0 0 (byteVals []) rfl hown3 _ rfl (Lib.uvarint n).length (byteVals (Lib.uvarint n)) (src_at hat3 cap3) ?d2 ?d3 ?d4 ?_)
  case d2 => unfold maxLen; omega
  case d3 => omega
  case d4 => omega
  intro g4 cap4 w4 hown4 hgrow4 hgg4
  have H4 := H3.grown hgrow4 (by
    intro x hx
    simp only [List.mem_cons, List.not_mem_nil, or_false] at hx
    rcases hx with rfl | rfl | rfl <;> simp <;> omega)
  have hb4 : Below w.heap.size w w4 := hbw3.grown hgrow4 (by omega) (fun k hk => by simp at hk; omega)
  have hz4 := hgrow4.size
  have hown4' : w4.ownsRow w.heap.size 5 1 (.slice (some ⟨g4, 0, none⟩) (Lib.uvarint n).length cap4) (Lib.uvarint n).length (byteVals (Lib.uvarint n)) := by simpa [byteVals] using hown4
  have hg4 : g4 = w.heap.size ∨ w2.heap.size < g4 := by omega
  clear hown3 hown4 H3 hgrow4 hgg4 hat3 hbw3
  have k1 := H4.cell 1 rfl
  have k2 := H4.cell 2 rfl
  by_cases hzn : z < 0
  · have e3 : decide (z < 0) = true := by simp; omega
    go_wp2_with (go_at_call 37; (with_reducible refine (HV2.out _).mono ?_); rintro e w5 ⟨v5, rfl, hv5, hb5⟩; refine Hid.out ?_)
    refine Lib.hid ?_
    obtain ⟨g5, cap5, rfl, hg5a, hg5b, hat5⟩ := own_at hv5 hup2
    have H5 := H4.belowS hb5
    have hown5 : w5.ownsRow w.heap.size 5 1 (.slice (some ⟨g4, 0, none⟩) (Lib.uvarint n).length cap4) (Lib.uvarint n).length (byteVals (Lib.uvarint n)) := hown4'.kept (row := none) ⟨hb5.os, hb5.tape, hb5.output, hb5.size, fun k hk _ => hb5.block k hk⟩ (Or.inr (by simp [Value.ownBlock]))
    have hbw5 : Below w.heap.size w w5 := hb4.trans (hb5.mono hb4.size)
    have hz5 := hb5.size
    clear hv5 hb5 hb4 hown4' H4 k1 k2
    go_wp2_with (at_builtin; refine wpList_append_src_own _ rfl (.tmp 30) (.tmp 35) 22 22 rfl w.heap.size 5 i0 (.int .u8 0) 1 1 Tryz.underlying22 hi hz0 hz1 hz2 rfl g4 (Lib.uvarint n).length cap4 _ rfl hown5 _ rfl (Lib.uvarint l.length).length (byteVals (Lib.uvarint l.length)) (src_at hat5 cap5) ?e2 ?e3 ?e4 ?_)
    case e2 => unfold maxLen; omega
    case e3 => omega
    case e4 => omega
    intro g6 cap6 w6 hown6 hgrow6 hgg6
    have H6 := H5.grown hgrow6 (by
      intro x hx
      simp only [List.mem_cons, List.not_mem_nil, or_false] at hx
      rcases hx with rfl | rfl | rfl <;> simp <;> omega)
    have hb6 : Below w.heap.size w w6 := hbw5.grown hgrow6 (by omega) (fun k hk => by simp at hk; omega)
    have hz6 := hgrow6.size
    have k1 := H6.cell 1 rfl
    have hat6 : At w6 g2 0 l := HAT.out.1.below hb6 HAT.out.2
    clear hown5 hgrow6 H5 hat5 hbw5
    go_wp2_with (at_builtin; refine wpList_append_src_own _ rfl (.tmp 37) (.tmp 39) 22 22 rfl w.heap.size 5 i0 (.int .u8 0) 1 1 Tryz.underlying22 hi hz0 hz1 hz2 rfl g6 ((Lib.uvarint n).length + (Lib.uvarint l.length).length) cap6 _ rfl hown6 _ rfl l.length (byteVals l) (src_at hat6 cp2) ?f2 ?f3 ?f4 ?_)
    case f2 => unfold maxLen; omega
    case f3 => omega
    case f4 => omega
    intro g7 cap7 w7 hown7 hgrow7 hgg7
    have hb7 : Below w.heap.size w w7 := hb6.grown hgrow7 (by omega) (fun k hk => by simp at hk; omega)
    have HO : Hid (w7.ownsRow w.heap.size 5 1 (.slice (some ⟨g7, 0, none⟩) ((Lib.uvarint n).length + (Lib.uvarint l.length).length + l.length) cap7) (compBytes n l).length (byteVals (compBytes n l))) := Lib.hid (by
      have e : compBytes n l = (Lib.uvarint n ++ Lib.uvarint l.length) ++ l := by rw [HCB.out, if_pos (by omega)]
      rw [e, List.length_append, List.length_append]
      simpa [byteVals] using hown7)
    clear hown6 hown7 hgrow7 H6 k1
    go_wp2
    rw [rounds_succ]
    go_wp2
    go_ret
    exact ⟨_, rfl, HO.out, hb7⟩
  · have e3 : decide (z < 0) = false := by simp; omega
    have hat4 : At w4 g2 0 l := HAT.out.1.below hb4 HAT.out.2
    go_wp2_with (at_builtin; refine wpList_append_src_own _ rfl (.tmp 37) (.tmp 39) 22 22 rfl w.heap.size 5 i0 (.int .u8 0) 1 1 Tryz.underlying22 hi hz0 hz1 hz2 rfl g4 (Lib.uvarint n).length cap4 _ rfl hown4' _ rfl l.length (byteVals l) (src_at hat4 cp2) ?f2 ?f3 ?f4 ?_)
    case f2 => unfold maxLen; omega
    case f3 => omega
    case f4 => omega
    intro g7 cap7 w7 hown7 hgrow7 hgg7
    have hb7 : Below w.heap.size w w7 := hb4.grown hgrow7 (by omega) (fun k hk => by simp at hk; omega)
    have HO : Hid (w7.ownsRow w.heap.size 5 1 (.slice (some ⟨g7, 0, none⟩) ((Lib.uvarint n).length + l.length) cap7) (compBytes n l).length (byteVals (compBytes n l))) := Lib.hid (by
      have e : compBytes n l = Lib.uvarint n ++ l := by rw [HCB.out, if_neg (by omega), List.append_nil]
      rw [e, List.length_append]
      simpa [byteVals] using hown7)
    clear hown4' hown7 hgrow7 H4 k1 k2
    go_wp2
    rw [rounds_succ]
    go_wp2
    go_ret
    exact ⟨_, rfl, HO.out, hb7⟩
end Go.Proofs.YtnpcmmjdojdmnaaGreatDoor
namespace Go.Proofs.YtnpcmmjdojdmnaaGreatDoor
open Go Go.RowKit Go.Sort

set_option maxRecDepth 100000 in
set_option maxHeartbeats 16000000 in
theorem fnMaOne_loop (HT : AllTrans) (b : List UInt8) (cs : List (Int × List UInt8)) (hrd : RdOk b cs) (g o cp : Nat) (w : World) (he : Env w) (hc : At w g o b) (hcp : b.length ≤ cp) (hlim : b.length ≤ 2000) :
    Calls Tryz.prog 4 #[.slice (some ⟨g, o, none⟩) b.length cp] w fun e w' => e = .returned (.bool true) ∧ Below w.heap.size w w' := by
  obtain ⟨i0, hi, hz0, hz1, hz2⟩ := info_parts info24
  have hpos : 0 < cs.length := List.length_pos_iff.2 hrd.2.1
  have hb1 : 1 ≤ b.length := by have := allBytes_len cs; rw [← hrd.1] at this; omega
  have hg : g < w.heap.size := hc.lt (by omega)
  have hcl : cs.length ≤ 2000 := by have := allBytes_len cs; rw [← hrd.1] at this; omega
  have H13 := Lib.hid (parseYes HT b cs hrd (some ⟨g, o, none⟩) cp w he hc.bytes hcp (by omega))
  have HALL := Lib.hid (And.intro HT (And.intro hrd (And.intro he (And.intro hc hlim))))
  have e1 : decide (2147483647 < (b.length : Int)) = false := by simp; omega
  have e2 : decide (2000 < (b.length : Int)) = false := by simp; omega
  have HBE : Hid (b.length = (allBytes (cs.drop 0)).length) := Lib.hid (by rw [List.drop_zero, ← hrd.1])
  clear hrd he hc hlim
  go_enter Tryz.func4, Tryz.ntmps4
  go_wp2_with (go_at_call 13; (with_reducible refine H13.out.mono ?_); rintro e w1 ⟨v, rfl, ⟨bb, cap, rfl, hbb1, hbb2, hcap, hrow⟩, hbl1⟩)
  have HR1 := Lib.hid (And.intro hrow (And.intro hbb2 hbl1))
  clear hrow hbl1 e1 e2
  go_loopw [0, 27] (fun v0 v27 wr => ∃ (k o' cp' : Nat), v27 = .int .i64 k ∧ k ≤ cs.length ∧ v0 = .slice (some ⟨g, o', none⟩) (allBytes (cs.drop k)).length cp' ∧ (allBytes (cs.drop k)).length ≤ cp' ∧ Hid (At wr g o' (allBytes (cs.drop k))) ∧ Below w1.heap.size w1 wr) (fun _ v27 _ => cs.length - (intOf v27).toNat)
  case atStart =>
    obtain ⟨HT, hrd, he, hc, hlim⟩ := HALL.out
    refine ⟨0, o, cp, rfl, Nat.zero_le _, by rw [← HBE.out], by rw [← HBE.out]; exact hcp, Lib.hid ?_, Below.refl _ _⟩
    rw [List.drop_zero, ← hrd.1]
    exact hc.below HR1.out.2.2 hg
  case round =>
    obtain ⟨k, o', cp', rfl, hk, rfl, hcp', hat, hbl⟩ := hrel
    by_cases hlt : k < cs.length
    · obtain ⟨HT, hrd, he, hc, hlim⟩ := HALL.out
      obtain ⟨hrow, _, hbw1⟩ := HR1.out
      have hok := hrd.2.2.1 cs[k] (List.getElem_mem hlt)
      obtain ⟨n, hn⟩ : ∃ n : Nat, cs[k].1 = n := ⟨cs[k].1.toNat, by have := (uvarint_code hok.1).2; omega⟩
      obtain ⟨l, hl⟩ : ∃ l, cs[k].2 = l := ⟨_, rfl⟩
      have hdk : cs.drop k = ((n : Int), l) :: cs.drop (k + 1) := by
        rw [List.drop_eq_getElem_cons hlt, ← hn, ← hl]
      rw [hn, hl] at hok
      have hallk : allBytes (cs.drop k) = compBytes n l ++ allBytes (cs.drop (k + 1)) := by rw [hdk]; rfl
      have htot : (allBytes (cs.drop k)).length ≤ 2000 := by
        have h1 : allBytes cs = allBytes (cs.take k) ++ allBytes (cs.drop k) := by rw [← allBytes_append, List.take_append_drop]
        have h2 := congrArg List.length h1
        rw [← hrd.1, List.length_append] at h2
        omega
      have hl2 : (allBytes (cs.drop k)).length = (compBytes n l).length + (allBytes (cs.drop (k + 1))).length := by rw [hallk, List.length_append]
      have hK1 := compBytes_pos n l
      have hll : l.length ≤ 2000 := by
        have : (compBytes n l).length = (headBytes n l.length).length + l.length := by rw [comp_head, List.length_append]
        omega
      obtain ⟨r1, gl, cpl, r2, r3, r4, r5, r6⟩ := hrow k hlt
      rw [hn] at r1
      rw [hl] at r2 r5 r6
      have hw1 := hbl.size
      have c0 : wr.cell? ⟨bb, k * 2, none⟩ = some (.int .i64 n) := (hbl.cell (p := ⟨bb, k * 2, none⟩) hbb2).trans r1
      have c1 : wr.cell? ⟨bb, k * 2 + 1, none⟩ = some (.slice (some ⟨gl, 0, none⟩) l.length cpl) := (hbl.cell (p := ⟨bb, k * 2 + 1, none⟩) hbb2).trans r2
      have hatl : At wr gl 0 l := r6.below hbl r4
      have hbw : Below w.heap.size w wr := hbw1.trans (hbl.mono hbw1.size)
      have hgr : g < wr.heap.size := Nat.lt_of_lt_of_le hg hbw.size
      obtain ⟨K, hK⟩ : ∃ K, K = (compBytes n l).length := ⟨_, rfl⟩
      obtain ⟨N, hN⟩ : ∃ N, N = (allBytes (cs.drop k)).length := ⟨_, rfl⟩
      obtain ⟨M, hM⟩ : ∃ M, M = (allBytes (cs.drop (k + 1))).length := ⟨_, rfl⟩
      have HAL : Hid (∀ o1, Below wr.heap.size wr (wr.alloc o1)) := Lib.hid fun o1 => (Below.refl _ _).alloc (Nat.le_refl _) _
      have H14 : Hid (∀ o1, Calls Tryz.prog 14 #[.slice (some ⟨g, o', none⟩) N cp'] (wr.alloc o1) fun e w' => ∃ g2 cp2, e = .returned (.tuple #[.agg #[.int .i64 n, .slice (some ⟨g2, 0, none⟩) l.length cp2], .int .i64 K, .bool true]) ∧ (wr.alloc o1).heap.size ≤ g2 ∧ g2 < w'.heap.size ∧ l.length ≤ cp2 ∧ At w' g2 0 l ∧ Below (wr.alloc o1).heap.size (wr.alloc o1) w') := Lib.hid fun o1 => by
        rw [hN, hK]
        exact maReadOne HT (allBytes (cs.drop k)) n l (by rw [hallk]; exact readC_comp hok _) g o' cp' _ ((he.up hbw).up (HAL.out o1)) (hat.out.below (HAL.out o1) hgr) (by simp; omega) hcp' (by omega)
      have H15 : Hid (∀ (gx ox cx : Nat) (wx : World), wx.cell? ⟨gx, ox, none⟩ = some (.int .i64 n) → wx.cell? ⟨gx, ox + 1, none⟩ = some (.slice (some ⟨gl, 0, none⟩) l.length cpl) → At wx gl 0 l → gl < wx.heap.size → Calls Tryz.prog 15 #[.slice (some ⟨gx, ox, none⟩) 1 cx] wx fun e w' => ∃ gy cy, e = .returned (.slice (some ⟨gy, 0, none⟩) K cy) ∧ Below wx.heap.size wx w') := Lib.hid fun gx ox cx wx x0 x1 x2 x3 => by
        refine (maBytes1 n l hok.1 (by omega) gx ox cx gl cpl wx x0 x1 x2 x3).mono ?_
        rintro e w' ⟨v, rfl, hv, hb⟩
        obtain ⟨gy, cy, rfl, _⟩ := own_at hv hK1
        exact ⟨gy, cy, by rw [hK], hb⟩
      have HD1 : Hid (At wr g (o' + K) (allBytes (cs.drop (k + 1)))) := Lib.hid (by
        have h := hat.out
        rw [hallk] at h
        rw [hK]
        exact h.drop)
      have HNS := Lib.hid (And.intro hN (And.intro hM hK))
      rw [← hN] at hl2 hcp' htot ⊢
      rw [← hK] at hl2 hK1
      rw [← hM] at hl2
      have HATL := Lib.hid hatl
      have hgl : gl < wr.heap.size := Nat.lt_of_lt_of_le r4 hw1
      have hNK : K ≤ N := by omega
      have HL2 := Lib.hid hl2
      have HLT := Lib.hid hlt
      clear hN hM hK hallk hdk hn hl hok r1 r2 r3 r6 hrow hat HT hrd he hc hlim hatl hl2
      go_wp2_with (go_at_call 14; (with_reducible refine (H14.out _).mono ?_); rintro e w2 ⟨g2, cp2, rfl, hg2a, hg2b, hcp2, hat2, hb2⟩; refine Hid.out ?_)
      refine Lib.hid ?_
      have hz2 : wr.heap.size < w2.heap.size := by have := hb2.size; simp at this; omega
      have d0 : w2.cell? ⟨wr.heap.size, 0, none⟩ = some (.int .i64 n) := (hb2.cell (p := ⟨wr.heap.size, 0, none⟩) (by simp)).trans (by simp [go_sem])
      have d1 : w2.cell? ⟨wr.heap.size, 1, none⟩ = some (.slice (some ⟨gl, 0, none⟩) l.length cpl) := (hb2.cell (p := ⟨wr.heap.size, 1, none⟩) (by simp)).trans (by simp [go_sem])
      have hbr2 : Below wr.heap.size wr w2 := ((Below.refl _ _).alloc (Nat.le_refl _) _).trans (hb2.mono (by simp))
      have hatl2 : At w2 gl 0 l := HATL.out.below hbr2 hgl
      have H11 : Hid (∀ o2, Calls Tryz.prog 11 #[.agg #[.int .i64 n, .slice (some ⟨gl, 0, none⟩) l.length cpl], .agg #[.int .i64 n, .slice (some ⟨g2, 0, none⟩) l.length cp2]] (w2.alloc o2) fun e w' => e = .returned (.bool true) ∧ Below (w2.alloc o2).heap.size (w2.alloc o2) w') := Lib.hid fun o2 => by
        have hx : Below w2.heap.size w2 (w2.alloc o2) := (Below.refl _ _).alloc (Nat.le_refl _) _
        have := maSame (n : Int) n (some ⟨gl, 0, none⟩) (some ⟨g2, 0, none⟩) l l cpl cp2 (w2.alloc o2) (hatl2.below hx (Nat.lt_trans hgl hz2)).bytes (hat2.below hx hg2b).bytes
        simpa using this
      have HA2 := Lib.hid (And.intro hatl2 hbr2)
      clear c0 c1 hb2 hat2 hatl2 hbr2 hg2a hcp2
      go_wp2_with (go_at_call 11; (with_reducible refine (H11.out _).mono ?_); rintro e w4 ⟨rfl, hb4⟩; refine Hid.out ?_)
      refine Lib.hid ?_
      have hz4 : w2.heap.size < w4.heap.size := by have := hb4.size; simp at this; omega
      have hb24 : Below w2.heap.size w2 w4 := ((Below.refl _ _).alloc (Nat.le_refl _) _).trans (hb4.mono (by simp))
      have x0 : w4.cell? ⟨wr.heap.size, 0, none⟩ = some (.int .i64 n) := (hb24.cell (p := ⟨wr.heap.size, 0, none⟩) hz2).trans d0
      have x1 : w4.cell? ⟨wr.heap.size, 1, none⟩ = some (.slice (some ⟨gl, 0, none⟩) l.length cpl) := (hb24.cell (p := ⟨wr.heap.size, 1, none⟩) hz2).trans d1
      have hbr4 : Below wr.heap.size wr w4 := HA2.out.2.trans (hb24.mono HA2.out.2.size)
      have hatl4 : At w4 gl 0 l := HA2.out.1.below hb24 (Nat.lt_trans hgl hz2)
      have H15' : Hid (Calls Tryz.prog 15 #[.slice (some ⟨w4.heap.size, 0, none⟩) 1 1] (w4.alloc (.cells #[.int .i64 n, .slice (some ⟨gl, 0, none⟩) l.length cpl] 24)) fun e w' => ∃ gy cy, e = .returned (.slice (some ⟨gy, 0, none⟩) K cy) ∧ Below wr.heap.size wr w') := Lib.hid (by
        refine (H15.out w4.heap.size 0 1 _ (by simp [go_sem]) (by simp [go_sem]) (hatl4.below ((Below.refl _ _).alloc (Nat.le_refl _) _) (by omega)) (by simp; omega)).mono ?_
        rintro e w' ⟨gy, cy, rfl, hb⟩
        exact ⟨gy, cy, rfl, (hbr4.alloc hbr4.size _).trans (hb.mono (by have := hbr4.size; simp; omega))⟩)
      have q1 : decide ((K : Int) < 1) = false := by simp; omega
      have q2 : decide ((N : Int) < (K : Int)) = false := by simp; omega
      have q3 : (0 : Int) ≤ (K : Int) := by omega
      have q4 : (K : Int) ≤ (N : Int) := by omega
      clear d0 d1 hb4 hb24 H11 HA2 hatl4 hbr4
      rcases Decidable.em (K = cp') with rfl | hcc
      all_goals
        go_wp2_with (go_at_call 15; (with_reducible refine H15'.out.mono ?_); rintro e w5 ⟨gy, cy, rfl, hb5⟩)
        obtain ⟨hNN, hMM, hKK⟩ := HNS.out
        have hl2 := HL2.out
        have hlt2 := HLT.out
        have hNM : N - K = (allBytes (cs.drop (k + 1))).length := by omega
        have hk1 : k + 1 ≤ cs.length := hlt2
        have hb6 := hbl.trans (hb5.mono hw1)
        first
          | exact ⟨⟨k + 1, o' + K, cp' - K, by go_num, hk1, by rw [hNM], by omega, Lib.hid (HD1.out.below hb5 hgr), hb6⟩, by simp [intOf]; omega⟩
          | exact ⟨⟨k + 1, o', 0, by go_num, hk1, by rw [show (allBytes (cs.drop (k + 1))).length = 0 by omega], by omega, Lib.hid (by intro j hj; omega), hb6⟩, by simp [intOf]; omega⟩
          | done
    · have hke : k = cs.length := by omega
      subst hke
      have hd : (allBytes (cs.drop cs.length)).length = 0 := by rw [List.drop_length]; rfl
      rw [hd]
      have HA := Lib.hid (maAwake wr)
      have hbw : Below w.heap.size w wr := HR1.out.2.2.trans (hbl.mono HR1.out.2.2.size)
      go_wp2_with (go_at_call 9; (with_reducible refine HA.out.mono ?_); rintro e w5 ⟨rfl, hb5⟩)
      go_ret
      exact ⟨rfl, hbw.trans (hb5.mono hbw.size)⟩
end Go.Proofs.YtnpcmmjdojdmnaaGreatDoor
namespace Go.Proofs.YtnpcmmjdojdmnaaGreatDoor
open Go Go.RowKit Go.Sort

set_option maxRecDepth 100000 in
set_option maxHeartbeats 4000000 in
theorem fnMaOne (HT : AllTrans) (p : Option Addr) (b : List UInt8) (cp : Nat) (hcp : b.length ≤ cp) (w : World) (he : Env w) (hB : BytesAt w p b) :
    Calls Tryz.prog 4 #[.slice p b.length cp] w fun e w' => e = .returned (.bool true) ∧ Below w.heap.size w w' := by
  by_cases h31 : 2147483647 < b.length
  · have e1 : decide (2147483647 < (b.length : Int)) = true := by simp; omega
    clear he hB
    go_enter Tryz.func4, Tryz.ntmps4
    go_wp2
    go_ret
    exact ⟨rfl, Below.refl _ _⟩
  have e1 : decide (2147483647 < (b.length : Int)) = false := by simp; omega
  by_cases h2000 : 2000 < b.length
  · have e2 : decide (2000 < (b.length : Int)) = true := by simp; omega
    have HA := Lib.hid (maAwake w)
    clear he hB
    go_enter Tryz.func4, Tryz.ntmps4
    go_wp2_with (go_at_call 9; (with_reducible refine HA.out.mono ?_); rintro e w5 ⟨rfl, hb5⟩)
    go_ret
    exact ⟨rfl, hb5⟩
  have e2 : decide (2000 < (b.length : Int)) = false := by simp; omega
  by_cases hrd : ∃ cs, RdOk b cs
  · obtain ⟨cs, hrd⟩ := hrd
    have hb1 : 0 < b.length := by
      have h1 := List.length_pos_iff.2 hrd.2.1
      have := allBytes_len cs
      rw [← hrd.1] at this
      omega
    cases p with
    | none =>
      rw [hB.1 rfl] at hb1
      simp at hb1
    | some a =>
      obtain ⟨g, o, rfl, hat⟩ := at_of_bytes hB hb1
      exact fnMaOne_loop HT b cs hrd g o cp w he hat hcp (by omega)
  · have H13 := Lib.hid (parseNo HT b hrd p cp w he hB hcp (by omega))
    have HA := Lib.hid (fun wx => maAwake wx)
    clear he hB hrd
    go_enter Tryz.func4, Tryz.ntmps4
    go_wp2_with (first
      | (go_at_call 13; (with_reducible refine H13.out.mono ?_); rintro e w1 ⟨rfl, hb1⟩)
      | (go_at_call 9; (with_reducible refine (HA.out _).mono ?_); rintro e w5 ⟨rfl, hb5⟩))
    go_ret
    exact ⟨rfl, hb1.trans (hb5.mono hb1.size)⟩
end Go.Proofs.YtnpcmmjdojdmnaaGreatDoor
