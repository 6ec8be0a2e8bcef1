/- FromUvarint, ReadVarintCode at a varint of one byte. The transcoders' BytesToString: they succeed. The wrapped transcoders' BytesToString. (*Component).valueAndErr at a component whose transcoder speaks. -/
import Derived.Test.YtnpcmmjdojdmnaaGreatDoorQc
import Derived.IntWalk
import Derived.Lib.VarintBits
import Derived.Test.YtnpcmmjdojdmnaaGreatDoorQo
import Derived.Deep.QuietTactic
import Derived.BigQuiet
import Derived.WalkSmall
import Derived.Test.YtnpcmmjdojdmnaaGreatDoorQp
import Derived.Lib.ConvBytes
import Derived.Deep.RegionHeld3
import Derived.Lib.AtoiErrMem
namespace Go.Proofs.YtnpcmmjdojdmnaaGreatDoor
open Go Go.RowKit

/-- Bytes at a place of a block. -/
def At (w : World) (g o : Nat) (l : List UInt8) : Prop := ∀ j (h : j < l.length), w.cell? ⟨g, o + j, none⟩ = some (.int .u8 l[j].toNat)
theorem At.lt {w : World} {g o : Nat} {l : List UInt8} (h : At w g o l) (hl : 0 < l.length) : g < w.heap.size := World.block_lt_of_cell? w _ (h 0 hl)
theorem At.below {B g o : Nat} {w w' : World} {l : List UInt8} (h : At w g o l) (hb : Below B w w') (hB : g < B) : At w' g o l :=
  fun j hj => (hb.cell (p := ⟨g, o + j, none⟩) hB).trans (h j hj)
theorem At.drop {w : World} {g o : Nat} {a b : List UInt8} (h : At w g o (a ++ b)) : At w g (o + a.length) b := fun j hj => by
  have := h (a.length + j) (by rw [List.length_append]; omega)
  rw [show o + (a.length + j) = o + a.length + j by omega] at this
  rw [this, List.getElem_append_right (by omega)]; simp
theorem At.take {w : World} {g o : Nat} {a b : List UInt8} (h : At w g o (a ++ b)) : At w g o a := fun j hj => by
  have := h j (by rw [List.length_append]; omega)
  rw [this, List.getElem_append_left hj]
theorem At.bytes {w : World} {g o : Nat} {l : List UInt8} (h : At w g o l) : BytesAt w (some ⟨g, o, none⟩) l :=
  ⟨fun e => (by cases e), fun a ha j hj => by cases ha; rw [Addr.add_lit]; exact h j hj⟩

set_option maxRecDepth 100000 in
set_option maxHeartbeats 4000000 in
theorem fromUvarint1 (x : Nat) (hx : x < 128) (g o n cp : Nat) (hn : 1 ≤ n) (w : World) (hc : w.cell? ⟨g, o, none⟩ = some (.int .u8 x)) :
    Calls Tryz.prog 150 #[.slice (some ⟨g, o, none⟩) n cp] w fun e w' => e = .returned (.tuple #[.int .u64 x, .int .i64 1, .nilIface]) ∧ w = w' := by
  have e1 : 0 < (n : Int) := by omega
  have e2 : decide (128 ≤ (x : Int)) = false := by simp; omega
  have e3 : decide ((x : Int) < 128) = true := by simp; omega
  have e4 : bits .or .u64 0 (x : Int) = (x : Int) := by rw [u64_orv0 _ _ (by omega) (by omega) (by omega) (by omega) (by omega)]; omega
  go_enter Tryz.func150, Tryz.ntmps150
  go_wp2
  refine wp_loop_rounds 1 ?_; rw [rounds_succ]
  cases ez : ((x : Int) == 0)
  · go_wp2
    go_ret3
    exact ⟨rfl, rfl⟩
  · go_wp2
    go_ret3
    exact ⟨rfl, rfl⟩

/-- What ReadVarintCode reads at bytes that begin with the varint of x. -/
def ReadsCode (x : Nat) : Prop := ∀ (g o n cp : Nat) (w : World), (Lib.uvarint x).length ≤ n → At w g o (Lib.uvarint x) →
  Calls Tryz.prog 74 #[.slice (some ⟨g, o, none⟩) n cp] w fun e w' => e = .returned (.tuple #[.int .i64 x, .int .i64 (Lib.uvarint x).length, .nilIface]) ∧ w = w'

set_option maxRecDepth 100000 in
set_option maxHeartbeats 4000000 in
theorem readsCode1 (x : Nat) (hx : x < 128) : ReadsCode x := by
  intro g o n cp w hn hc
  rw [Lib.uvarint_small hx] at hn hc ⊢
  have h0 := hc 0 (by simp)
  have hx2 : ([x.toUInt8] : List UInt8)[0].toNat = x := by simp; omega
  rw [hx2] at h0
  have HC := Lib.hid (fromUvarint1 x hx g o n cp (by simpa using hn) w h0)
  have e1 : decide (2147483647 < (x : Int)) = false := by simp; omega
  clear hc h0 hx2
  go_enter Tryz.func74, Tryz.ntmps74
  go_wp2_with (go_at_call 150; (with_reducible refine HC.out.mono ?_); rintro e w2 ⟨rfl, rfl⟩)
  go_ret3
  exact ⟨rfl, rfl⟩
end Go.Proofs.YtnpcmmjdojdmnaaGreatDoor
namespace Go.Proofs.YtnpcmmjdojdmnaaGreatDoor
open Go Go.RowKit

theorem digits_short : ∀ x : Nat, x < 100 → (Lib.decDigits x).length ≤ 3 := fun x hx => by
  by_cases h : x < 10
  · rw [Lib.decDigits_one h]; simp
  · rw [Lib.decDigits_two h hx]; simp

set_option maxRecDepth 100000 in
set_option maxHeartbeats 4000000 in
theorem to4_self (p : Option Addr) (cp : Nat) (w : World) : Calls Tryz.prog 97 #[.slice p 4 cp] w fun e w' => e = .returned (.slice p 4 cp) ∧ w = w' := by
  go_enter Tryz.func97, Tryz.ntmps97
  go_wp2
  go_ret
  exact ⟨rfl, rfl⟩

set_option maxRecDepth 100000 in
set_option maxHeartbeats 4000000 in
theorem ipString4 (a b c d : UInt8) (ha : a.toNat < 100) (hb : b.toNat < 100) (hc : c.toNat < 100) (hd : d.toNat < 100) (g o cp : Nat) (w : World) (h : At w g o [a, b, c, d]) :
    Calls Tryz.prog 99 #[.slice (some ⟨g, o, none⟩) 4 cp] w fun e w' => ∃ s, e = .returned (.string s) ∧ Below w.heap.size w w' := by
  have hg := h.lt (by simp)
  have c0 : w.cell? ⟨g, o, none⟩ = some (.int .u8 a.toNat) := h 0 (by simp)
  have c1 : w.cell? ⟨g, o + 1, none⟩ = some (.int .u8 b.toNat) := h 1 (by simp)
  have c2 : w.cell? ⟨g, o + 2, none⟩ = some (.int .u8 c.toNat) := h 2 (by simp)
  have c3 : w.cell? ⟨g, o + 3, none⟩ = some (.int .u8 d.toNat) := h 3 (by simp)
  have hI : ∀ x : UInt8, x.toNat < 100 → ∃ t : ByteArray, t.size ≤ 3 ∧ Hid (∀ wx, Calls Tryz.prog 161 #[.int .i64 x.toNat] wx fun e w' => e = .returned (.string t) ∧ w' = wx) :=
    fun x hx => ⟨_, (by show (Lib.decDigits x.toNat).toArray.size ≤ 3; rw [List.size_toArray]; exact digits_short x.toNat hx), Lib.hid fun wx => Tryz.strconv_Itoa_small x.toNat hx wx⟩
  obtain ⟨t1, z1, i1⟩ := hI a ha
  obtain ⟨t2, z2, i2⟩ := hI b hb
  obtain ⟨t3, z3, i3⟩ := hI c hc
  obtain ⟨t4, z4, i4⟩ := hI d hd
  generalize a.toNat = na at *
  generalize b.toNat = nb at *
  generalize c.toNat = nc at *
  generalize d.toNat = nd at *
  have q1 : IntKind.i64.wrap (na : Int) = na := IntWalk.i64_in _ (by omega)
  have q2 : IntKind.i64.wrap (nb : Int) = nb := IntWalk.i64_in _ (by omega)
  have q3 : IntKind.i64.wrap (nc : Int) = nc := IntWalk.i64_in _ (by omega)
  have q4 : IntKind.i64.wrap (nd : Int) = nd := IntWalk.i64_in _ (by omega)
  have f1 : ¬ 9223372036854775807 < t1.size + 1 := by omega
  have f2 : ¬ 9223372036854775807 < t1.size + 1 + t2.size := by omega
  have f3 : ¬ 9223372036854775807 < t1.size + 1 + t2.size + 1 := by omega
  have f4 : ¬ 9223372036854775807 < t1.size + 1 + t2.size + 1 + t3.size := by omega
  have f5 : ¬ 9223372036854775807 < t1.size + 1 + t2.size + 1 + t3.size + 1 := by omega
  have f6 : ¬ 9223372036854775807 < t1.size + 1 + t2.size + 1 + t3.size + 1 + t4.size := by omega
  clear h hI ha hb hc hd z1 z2 z3 z4
  go_enter Tryz.func99, Tryz.ntmps99
  go_wp2_with (go_at_call 97; (with_reducible refine (to4_self _ _ _).mono ?_); rintro e w2 ⟨rfl, rfl⟩)
  go_quiet (first
    | (go_at_call 161; with_reducible exact Calls.quiet_of_same (i1.out _))
    | (go_at_call 161; with_reducible exact Calls.quiet_of_same (i2.out _))
    | (go_at_call 161; with_reducible exact Calls.quiet_of_same (i3.out _))
    | (go_at_call 161; with_reducible exact Calls.quiet_of_same (i4.out _)))
  all_goals
    go_wp2
    go_ret
    exact ⟨_, rfl, below_drewN ((Below.refl _ _).alloc (Nat.le_refl _) _) _⟩

/-- A transcoder's BytesToString succeeds at these bytes. -/
def Speaks (f : Nat) (l : List UInt8) : Prop :=
  ∀ (w : World) (g o cp : Nat), At w g o l → Calls Tryz.prog f #[.slice (some ⟨g, o, none⟩) l.length cp] w fun e w' => ∃ s, e = .returned (.tuple #[.string s, .nilIface]) ∧ Below w.heap.size w w'

set_option maxRecDepth 100000 in
set_option maxHeartbeats 4000000 in
theorem ip4BtS (a b c d : UInt8) (ha : a.toNat < 100) (hb : b.toNat < 100) (hc : c.toNat < 100) (hd : d.toNat < 100) : Speaks 200 [a, b, c, d] := by
  intro w g o cp h
  have HP := Lib.hid (ipString4 a b c d ha hb hc hd g o cp w h)
  clear ha hb hc hd h
  go_enter Tryz.func200, Tryz.ntmps200
  go_wp2_with (go_at_call 99; (with_reducible refine HP.out.mono ?_); rintro e w2 ⟨s, rfl, hbe⟩)
  go_ret2
  exact ⟨s, rfl, hbe⟩

set_option maxRecDepth 100000 in
set_option maxHeartbeats 4000000 in
theorem fmtUint_inner (n : Nat) (hn : n < 100) (w : World) : Calls Tryz.prog 282 #[.int .u64 n, .int .i64 10] w fun e w' => ∃ s, e = .returned (.string s) ∧ w' = w := by
  have HI : Hid (∀ wx, ∃ s, Calls Tryz.prog 275 #[.int .i64 n] wx fun e w' => e = .returned (.string s) ∧ w' = wx) := Lib.hid fun wx => ⟨_, Tryz.internal_strconv_small n hn wx⟩
  obtain ⟨s, hs⟩ := HI.out w
  have HS := Lib.hid hs; clear hs HI
  have q0 : decide ((n : Int) < 100) = true := by simp; omega
  have q1 : IntKind.i64.wrap (n : Int) = n := IntWalk.i64_in _ (by omega)
  go_enter Tryz.func282, Tryz.ntmps282
  go_wp2_with (go_at_call 275; (with_reducible refine HS.out.mono ?_); rintro e w2 ⟨rfl, rfl⟩)
  go_ret
  exact ⟨s, rfl, rfl⟩

set_option maxRecDepth 100000 in
set_option maxHeartbeats 4000000 in
theorem fmtUint (n : Nat) (hn : n < 100) (w : World) : Calls Tryz.prog 249 #[.int .u64 n, .int .i64 10] w fun e w' => ∃ s, e = .returned (.string s) ∧ w' = w := by
  have HI := Lib.hid (fmtUint_inner n hn w)
  clear hn
  go_enter Tryz.func249, Tryz.ntmps249
  go_wp2_with (go_at_call 282; (with_reducible refine HI.out.mono ?_); rintro e w2 ⟨s, rfl, rfl⟩)
  go_ret
  exact ⟨s, rfl, rfl⟩

set_option maxRecDepth 100000 in
set_option maxHeartbeats 4000000 in
theorem portBtS (a b : UInt8) (h : Lib.beNat [a, b] < 100) : Speaks 202 [a, b] := by
  intro w g o cp hc
  have c0 : w.cell? ⟨g, o, none⟩ = some (.int .u8 a.toNat) := hc 0 (by simp)
  have c1 : w.cell? ⟨g, o + 1, none⟩ = some (.int .u8 b.toNat) := hc 1 (by simp)
  have HU := Lib.hid (Tryz.binary_BE_Uint16 g o 2 cp a b w (by decide) c0 c1)
  generalize hn : Lib.beNat [a, b] = n at *
  have HF := Lib.hid (fun wx => fmtUint n h wx)
  have q1 : IntKind.u64.wrap (n : Int) = n := IntWalk.u64_in _ (by omega)
  clear c0 c1 hc hn h
  go_enter Tryz.func202, Tryz.ntmps202
  go_wp2_with (first
    | (go_at_call 248; (with_reducible refine HU.out.mono ?_); rintro e w2 ⟨rfl, hbe⟩)
    | (go_at_call 249; (with_reducible refine (HF.out _).mono ?_); rintro e w3 ⟨s, rfl, rfl⟩))
  go_ret2
  exact ⟨s, rfl, hbe⟩
end Go.Proofs.YtnpcmmjdojdmnaaGreatDoor
namespace Go.Proofs.YtnpcmmjdojdmnaaGreatDoor
open Go Go.RowKit

set_option maxRecDepth 100000 in
set_option maxHeartbeats 4000000 in
theorem twBtS200 (l : List UInt8) (h : Speaks 200 l) (w : World) (g o cp : Nat) (hc : At w g o l) (hl : 0 < l.length) :
    Calls Tryz.prog 428 #[.agg #[.func (.func 199) #[] #[], .func (.func 200) #[] #[], .nilFunc], .slice (some ⟨g, o, none⟩) l.length cp] w fun e w' => ∃ s, e = .returned (.tuple #[.string s, .nilIface]) ∧ Below w.heap.size w w' := by
  have HP : Hid (∀ ob, Calls Tryz.prog 200 #[.slice (some ⟨g, o, none⟩) l.length cp] (w.alloc ob) fun e w' => ∃ s, e = .returned (.tuple #[.string s, .nilIface]) ∧ Below (w.alloc ob).heap.size (w.alloc ob) w') :=
    Lib.hid fun ob => h _ g o cp (hc.below ((Below.refl _ _).alloc (Nat.le_refl _) _) (hc.lt hl))
  clear h hc
  go_enter Tryz.func428, Tryz.ntmps428
  go_wp2_with (go_at_call 200; (with_reducible refine (HP.out _).mono ?_); rintro e w2 ⟨s, rfl, hb⟩)
  go_ret2
  exact ⟨s, rfl, below_under hb⟩

set_option maxRecDepth 100000 in
set_option maxHeartbeats 4000000 in
theorem twBtS202 (l : List UInt8) (h : Speaks 202 l) (w : World) (g o cp : Nat) (hc : At w g o l) (hl : 0 < l.length) :
    Calls Tryz.prog 428 #[.agg #[.func (.func 201) #[] #[], .func (.func 202) #[] #[], .nilFunc], .slice (some ⟨g, o, none⟩) l.length cp] w fun e w' => ∃ s, e = .returned (.tuple #[.string s, .nilIface]) ∧ Below w.heap.size w w' := by
  have HP : Hid (∀ ob, Calls Tryz.prog 202 #[.slice (some ⟨g, o, none⟩) l.length cp] (w.alloc ob) fun e w' => ∃ s, e = .returned (.tuple #[.string s, .nilIface]) ∧ Below (w.alloc ob).heap.size (w.alloc ob) w') :=
    Lib.hid fun ob => h _ g o cp (hc.below ((Below.refl _ _).alloc (Nat.le_refl _) _) (hc.lt hl))
  clear h hc
  go_enter Tryz.func428, Tryz.ntmps428
  go_wp2_with (go_at_call 202; (with_reducible refine (HP.out _).mono ?_); rintro e w2 ⟨s, rfl, hb⟩)
  go_ret2
  exact ⟨s, rfl, below_under hb⟩

end Go.Proofs.YtnpcmmjdojdmnaaGreatDoor
namespace Go.Proofs.YtnpcmmjdojdmnaaGreatDoor
open Go Go.RowKit

/-- A component and the transcoder of its protocol, as a region reads them. -/
abbrev VS (w0 : World) (q pp : Nat) (T : ByteArray) (k : Nat) (x : Value) (w : World) : Prop :=
  w.cell? ⟨q, 0, none⟩ = some (.string T) ∧ w.cell? ⟨q, 1, none⟩ = some (.pointer (some ⟨pp, 0, none⟩)) ∧ w.cell? ⟨q, 2, none⟩ = some (.int .i64 k) ∧ w.cell? ⟨pp, 5, none⟩ = some x ∧ Below w0.heap.size w0 w

theorem VS.of {w0 : World} {q pp : Nat} {T : ByteArray} {k : Nat} {x : Value} {w : World} (h0 : VS w0 q pp T k x w0) (hb : Below w0.heap.size w0 w) : VS w0 q pp T k x w := by
  obtain ⟨h1, h2, h3, h4, _⟩ := h0
  have hq := World.block_lt_of_cell? w0 _ h1
  have hp := World.block_lt_of_cell? w0 _ h4
  exact ⟨(hb.cell hq).trans h1, (hb.cell (p := ⟨q, 1, none⟩) hq).trans h2, (hb.cell (p := ⟨q, 2, none⟩) hq).trans h3, (hb.cell hp).trans h4, hb⟩

theorem conv_string (w : World) (t : ByteArray) : (convert 9 22 (.string t)).run Tryz.prog w = .ok (.slice (some ⟨w.heap.size, 0, none⟩) t.size (grownCap w t.size 0 5)) (Lib.bytesWorld w 5 t) :=
  Lib.run_convert_string_bytes w 9 22 5 t Tryz.underlying9 Tryz.underlying22 Tryz.underlying5

theorem bytesWorld_at (w : World) (t : ByteArray) : At (Lib.bytesWorld w 5 t) w.heap.size 0 t.data.toList := fun j hj => by
  have hsz' : j < t.data.size := by rw [Array.length_toList] at hj; exact hj
  have hsz : j < t.size := by rw [Array.length_toList] at hj; exact hj
  rw [Nat.zero_add, Lib.bytesWorld_cell w 5 t j hsz]; congr 3; simp only [List.getD, Array.getElem?_toList, Array.getElem?_eq_getElem hsz', Option.getD_some, Array.getElem_toList]

theorem method_bts (pl : Value) (w : World) : (method 458 177 pl "BytesToString").run Tryz.prog w = .ok (428, pl) w := by kernel_rfl
theorem nil_ahead_bts (pl : Value) (w : World) : (nilAhead 458 177 pl "BytesToString").run Tryz.prog w = .ok (some false) w := by kernel_rfl

/-- A transcoder's words at a value. -/
def Says (pl : Value) (V : ByteArray) : Prop := ∀ (w : World) (g o cp : Nat), At w g o V.data.toList →
  Calls Tryz.prog 428 #[pl, .slice (some ⟨g, o, none⟩) V.size cp] w fun e w' => ∃ s, e = .returned (.tuple #[.string s, .nilIface]) ∧ Below w.heap.size w w'

set_option maxRecDepth 100000 in
set_option maxHeartbeats 4000000 in
theorem valueAndErr (q pp : Nat) (T V : ByteArray) (k : Nat) (pl : Value) (w : World) (h0 : VS w q pp T k (.iface 177 pl) w) (hk : k ≤ T.size) (hx : T.extract k T.size = V) (_hT : T.size ≤ 1000000) (hs : Says pl V) :
    Calls Tryz.prog 152 #[.pointer (some ⟨q, 0, none⟩)] w fun e w' => ∃ s, e = .returned (.tuple #[.string s, .nilIface]) ∧ Below w.heap.size w w' := by
  have h00 := h0
  obtain ⟨c0, c1, c2, c3, _⟩ := h00
  have HS := Lib.hid hs; clear hs
  have hM := method_bts pl
  have hNA := nil_ahead_bts pl
  have hcv := conv_string
  have k1 : (k : Int) ≤ (T.size : Int) := by omega
  have HW : ∀ w', Below w.heap.size w w' → Hid (Calls Tryz.prog 428 #[pl, .slice (some ⟨w'.heap.size, 0, none⟩) V.size (grownCap w' V.size 0 5)] (Lib.bytesWorld w' 5 V) fun e w'' => ∃ s, e = .returned (.tuple #[.string s, .nilIface]) ∧ Below w.heap.size w w'') :=
    fun w' hb => Lib.hid ((HS.out _ _ 0 _ (bytesWorld_at w' V)).mono (by
      rintro e w'' ⟨s, rfl, hb2⟩
      refine ⟨s, rfl, (hb.trans ((Lib.bytesWorld_below _ _ _).mono hb.size)).trans (hb2.mono ?_)⟩
      rw [Lib.bytesWorld_size]; have := hb.size; omega))
  have HWd : Hid (Calls Tryz.prog 428 #[pl, .slice (some ⟨w.heap.size, 0, none⟩) V.size (grownCap w.drew V.size 0 5)] (Lib.bytesWorld w.drew 5 V) fun e w'' => ∃ s, e = .returned (.tuple #[.string s, .nilIface]) ∧ Below w.heap.size w w'') := HW w.drew ((Below.refl _ _).drew)
  clear HW HS
  go_enter Tryz.func152, Tryz.ntmps152
  go_wp2
  go_region_held (fun w' => VS w q pp T k (.iface 177 pl) w')
    (first
      | exact VS.of h0 ((Below.refl _ _).drew)
      | exact VS.of h0 hb2
      | exact VS.of h0 ((‹VS w q pp T k _ _›).2.2.2.2.trans ((Lib.bytesWorld_below _ _ _).mono (‹VS w q pp T k _ _›).2.2.2.2.size)))
    ((go_at_call 428; (with_reducible refine HWd.out.mono ?_); rintro e w2 ⟨s, rfl, hb2⟩))
  all_goals
    go_wp2
    go_ret2
    exact ⟨s, rfl, hb2⟩
end Go.Proofs.YtnpcmmjdojdmnaaGreatDoor
