/- The environment that the reader needs; valueAndErr (152) at a transcoder that speaks, that refuses, and without one. validateComponent (75): components without a value, and with a value of fixed length. ProtocolWithCode at a code that the table lacks. -/
import Derived.Test.YtnpcmmjdojdmnaaGreatDoorSa
import Derived.Test.YtnpcmmjdojdmnaaGreatDoorRf
import Derived.Test.YtnpcmmjdojdmnaaGreatDoorQh
namespace Go.Proofs.YtnpcmmjdojdmnaaGreatDoor
open Go Go.RowKit

/-- The table of net/url: bytes. -/
def UrlTab (w : World) : Prop := ∀ i, i < 256 → ∃ b : UInt8, w.cell? ⟨22, i, none⟩ = some (.int .u8 b.toNat)
/-- The package variables that the reader's functions read. -/
structure Env (w : World) : Prop where
  tab : Tab w
  errs : Errs w
  url : UrlTab w
theorem Env.below {B : Nat} {w w' : World} (h : Env w) (hb : Below B w w') (hB : w.heap.size ≤ B) : Env w' :=
  ⟨h.tab.below hb hB, h.errs.below hb hB, fun i hi => by
    obtain ⟨b, hc⟩ := h.url i hi
    exact ⟨b, (hb.cell (p := ⟨22, i, none⟩) (Nat.lt_of_lt_of_le (World.block_lt_of_cell? w _ hc) hB)).trans hc⟩⟩
theorem Env.up {w w' : World} (h : Env w) (hb : Below w.heap.size w w') : Env w' := h.below hb (Nat.le_refl _)

/-- A transcoder's words at a value: they are had, or refused. -/
def SaysY (pl : Value) (V : ByteArray) : Prop := ∀ (w : World) (g o cp : Nat), V.size ≤ cp → Env w → At w g o V.data.toList →
  Calls Tryz.prog 428 #[pl, .slice (some ⟨g, o, none⟩) V.size cp] w fun e w' => ∃ s, e = .returned (.tuple #[.string s, .nilIface]) ∧ Below w.heap.size w w'
def SaysN (pl : Value) (V : ByteArray) : Prop := ∀ (w : World) (g o cp : Nat), V.size ≤ cp → Env w → At w g o V.data.toList →
  Calls Tryz.prog 428 #[pl, .slice (some ⟨g, o, none⟩) V.size cp] w fun e w' => ∃ s t p, e = .returned (.tuple #[.string s, .iface t p]) ∧ Below w.heap.size w w'
/-- A transcoder's check of bytes. -/
def MindsY (pl : Value) (V : ByteArray) : Prop := ∀ (w : World) (g o cp : Nat), V.size ≤ cp → Env w → At w g o V.data.toList →
  Calls Tryz.prog 430 #[pl, .slice (some ⟨g, o, none⟩) V.size cp] w fun e w' => e = .returned .nilIface ∧ Below w.heap.size w w'
def MindsN (pl : Value) (V : ByteArray) : Prop := ∀ (w : World) (g o cp : Nat), V.size ≤ cp → Env w → At w g o V.data.toList →
  Calls Tryz.prog 430 #[pl, .slice (some ⟨g, o, none⟩) V.size cp] w fun e w' => ∃ t p, e = .returned (.iface t p) ∧ Below w.heap.size w w'

set_option maxRecDepth 100000 in
set_option maxHeartbeats 4000000 in
theorem valueAndErr0 (q pp : Nat) (T : ByteArray) (k : Nat) (w : World) (h0 : VS w q pp T k .nilIface w) :
    Calls Tryz.prog 152 #[.pointer (some ⟨q, 0, none⟩)] w fun e w' => e = .returned (.tuple #[.string ⟨#[]⟩, .nilIface]) ∧ Below w.heap.size w w' := by
  obtain ⟨c0, c1, c2, c3, _⟩ := h0
  go_enter Tryz.func152, Tryz.ntmps152
  go_wp2
  go_ret2
  exact ⟨rfl, Below.refl _ _⟩


set_option maxRecDepth 100000 in
set_option maxHeartbeats 4000000 in
theorem valueAndErrY (q pp : Nat) (T V : ByteArray) (k : Nat) (pl : Value) (w : World) (h0 : VS w q pp T k (.iface 177 pl) w) (hk : k ≤ T.size) (hx : T.extract k T.size = V) (_hT : T.size ≤ 1000000) (hs : SaysY pl V) (ht : Env w) :
    Calls Tryz.prog 152 #[.pointer (some ⟨q, 0, none⟩)] w fun e w' => ∃ s, e = .returned (.tuple #[.string s, .nilIface]) ∧ Below w.heap.size w w' := by
  have h00 := h0
  obtain ⟨c0, c1, c2, c3, _⟩ := h00
  have HS := Lib.hid hs; clear hs
  have hM := method_bts pl
  have hNA := nil_ahead_bts pl
  have hcv := conv_string
  have k1 : (k : Int) ≤ (T.size : Int) := by omega
  have HW : ∀ w', Below w.heap.size w w' → Hid (Calls Tryz.prog 428 #[pl, .slice (some ⟨w'.heap.size, 0, none⟩) V.size (grownCap w' V.size 0 5)] (Lib.bytesWorld w' 5 V) fun e w'' => ∃ s, e = .returned (.tuple #[.string s, .nilIface]) ∧ Below w.heap.size w w'') :=
    fun w' hb => Lib.hid ((HS.out _ _ 0 _ (le_grown _ _) (ht.up (hb.trans ((Lib.bytesWorld_below _ _ _).mono hb.size))) (bytesWorld_at w' V)).mono (by
      rintro e w'' ⟨s, rfl, hb2⟩
      refine ⟨s, rfl, (hb.trans ((Lib.bytesWorld_below _ _ _).mono hb.size)).trans (hb2.mono ?_)⟩
      rw [Lib.bytesWorld_size]; have := hb.size; omega))
  have HWd : Hid (Calls Tryz.prog 428 #[pl, .slice (some ⟨w.heap.size, 0, none⟩) V.size (grownCap w.drew V.size 0 5)] (Lib.bytesWorld w.drew 5 V) fun e w'' => ∃ s, e = .returned (.tuple #[.string s, .nilIface]) ∧ Below w.heap.size w w'') := HW w.drew ((Below.refl _ _).drew)
  clear HW HS ht
  go_enter Tryz.func152, Tryz.ntmps152
  go_wp2
  go_region_held (fun w' => VS w q pp T k (.iface 177 pl) w')
    (first
      | exact VS.of h0 ((Below.refl _ _).drew)
      | exact VS.of h0 hb2
      | exact VS.of h0 ((‹VS w q pp T k _ _›).2.2.2.2.trans ((Lib.bytesWorld_below _ _ _).mono (‹VS w q pp T k _ _›).2.2.2.2.size)))
    ((go_at_call 428; (with_reducible refine HWd.out.mono ?_); rintro e w2 ⟨s, rfl, hb2⟩))
  all_goals
    go_wp2
    go_ret2
    exact ⟨s, rfl, hb2⟩

set_option maxRecDepth 100000 in
set_option maxHeartbeats 4000000 in
theorem valueAndErrN (q pp : Nat) (T V : ByteArray) (k : Nat) (pl : Value) (w : World) (h0 : VS w q pp T k (.iface 177 pl) w) (hk : k ≤ T.size) (hx : T.extract k T.size = V) (_hT : T.size ≤ 1000000) (hs : SaysN pl V) (ht : Env w) :
    Calls Tryz.prog 152 #[.pointer (some ⟨q, 0, none⟩)] w fun e w' => ∃ s t p, e = .returned (.tuple #[.string s, .iface t p]) ∧ Below w.heap.size w w' := by
  have h00 := h0
  obtain ⟨c0, c1, c2, c3, _⟩ := h00
  have HS := Lib.hid hs; clear hs
  have hM := method_bts pl
  have hNA := nil_ahead_bts pl
  have hcv := conv_string
  have k1 : (k : Int) ≤ (T.size : Int) := by omega
  have HW : ∀ w', Below w.heap.size w w' → Hid (Calls Tryz.prog 428 #[pl, .slice (some ⟨w'.heap.size, 0, none⟩) V.size (grownCap w' V.size 0 5)] (Lib.bytesWorld w' 5 V) fun e w'' => ∃ s t p, e = .returned (.tuple #[.string s, .iface t p]) ∧ Below w.heap.size w w'') :=
    fun w' hb => Lib.hid ((HS.out _ _ 0 _ (le_grown _ _) (ht.up (hb.trans ((Lib.bytesWorld_below _ _ _).mono hb.size))) (bytesWorld_at w' V)).mono (by
      rintro e w'' ⟨s, t, p, rfl, hb2⟩
      refine ⟨s, t, p, rfl, (hb.trans ((Lib.bytesWorld_below _ _ _).mono hb.size)).trans (hb2.mono ?_)⟩
      rw [Lib.bytesWorld_size]; have := hb.size; omega))
  have HWd : Hid (Calls Tryz.prog 428 #[pl, .slice (some ⟨w.heap.size, 0, none⟩) V.size (grownCap w.drew V.size 0 5)] (Lib.bytesWorld w.drew 5 V) fun e w'' => ∃ s t p, e = .returned (.tuple #[.string s, .iface t p]) ∧ Below w.heap.size w w'') := HW w.drew ((Below.refl _ _).drew)
  clear HW HS ht
  go_enter Tryz.func152, Tryz.ntmps152
  go_wp2
  go_region_held (fun w' => VS w q pp T k (.iface 177 pl) w')
    (first
      | exact VS.of h0 ((Below.refl _ _).drew)
      | exact VS.of h0 hb2
      | exact VS.of h0 ((‹VS w q pp T k _ _›).2.2.2.2.trans ((Lib.bytesWorld_below _ _ _).mono (‹VS w q pp T k _ _›).2.2.2.2.size)))
    ((go_at_call 428; (with_reducible refine HWd.out.mono ?_); rintro e w2 ⟨s, t, p, rfl, hb2⟩))
  all_goals
    go_wp2
    go_ret2
    exact ⟨_, t, p, rfl, hb2⟩
end Go.Proofs.YtnpcmmjdojdmnaaGreatDoor
namespace Go.Proofs.YtnpcmmjdojdmnaaGreatDoor
open Go Go.RowKit Go.Sort

set_option maxRecDepth 100000 in
set_option maxHeartbeats 8000000 in
theorem validate_zeroY (q pp g n : Nat) (T : ByteArray) (w : World) (h0 : CS w q pp g n T n 0 .nilIface w) (hU : At w g 0 T.data.toList) (hn1 : 1 ≤ n) (hT : T.size = n) (hlim : n ≤ 1000000) (_he : Env w) :
    Calls Tryz.prog 75 #[.pointer (some ⟨q, 0, none⟩)] w fun e w' => e = .returned .nilIface ∧ Below w.heap.size w w' := by
  have h00 := h0
  obtain ⟨c0, c1, c2, c3, c4, c5, _⟩ := h00
  have HVE : Hid (∀ w', Below w.heap.size w w' → Calls Tryz.prog 152 #[.pointer (some ⟨q, 0, none⟩)] w' fun e w'' => e = .returned (.tuple #[.string ⟨#[]⟩, .nilIface]) ∧ Below w.heap.size w w'') := Lib.hid fun w' hb => by
    obtain ⟨d0, d1, d2, d3, d4, d5, _⟩ := CS.of h0 hb
    refine (valueAndErr0 q pp T n w' ⟨d0, d1, d2, d5, Below.refl _ _⟩).mono ?_
    rintro e w'' ⟨rfl, hb2⟩
    exact ⟨rfl, hb.trans (hb2.mono hb.size)⟩
  clear _he
  have hg : g < w.heap.size := hU.lt (by rw [Array.length_toList]; show 0 < T.size; omega)
  have hcv := conv_string
  have k1 : (n : Int) ≤ (T.size : Int) := by omega
  have k2 : decide ((T.size : Int) < (n : Int)) = false := by simp; omega
  have k3 : ((n : Int) == 0) = false := by simp; omega
  have k9 : IntKind.i64.wrap (n : Int) = n := IntWalk.i64_in _ (by omega)
  have hxU : T.extract 0 n = T := by rw [← hT]; exact ByteArray.extract_zero_size
  have hxE : T.extract n T.size = ByteArray.empty := by rw [hT]; exact ByteArray.extract_eq_empty_iff.2 (by omega)
  have hxE2 : T.extract n n = ByteArray.empty := ByteArray.extract_eq_empty_iff.2 (by omega)
  have HE : Hid (∀ w', Below w.heap.size w w' → Calls Tryz.prog 151 #[.slice (some ⟨w'.heap.size, 0, none⟩) n (grownCap w' n 0 5), .slice (some ⟨g, 0, none⟩) n n] (Lib.bytesWorld w' 5 T) fun e w'' => e = .returned (.bool true) ∧ w'' = Lib.bytesWorld w' 5 T) := Lib.hid fun w' hb => by
    have := equalAt (bytesWorld_at w' T) ((hU.below hb hg).below (Lib.bytesWorld_below _ _ _) (Nat.lt_of_lt_of_le hg hb.size)) (grownCap w' n 0 5) n
    rw [Array.length_toList, show T.data.size = n from hT] at this
    exact this
  clear hU
  go_enter Tryz.func75, Tryz.ntmps75
  go_wp2
  go_quiet (fail)
  go_wp2
  go_quiet (fail)
  go_wp2
  generalize hw9 : World.drewN (World.drewN w _) _ = w9
  have hb9 : Below w.heap.size w w9 := by rw [← hw9]; exact below_drewN (below_drewN (Below.refl _ _) _) _
  have h9 := CS.of h0 hb9
  have h09 := h9
  obtain ⟨d0, d1, d2, d3, d4, d5, _⟩ := h9
  have HE9 : Hid (Calls Tryz.prog 151 #[.slice (some ⟨w9.heap.size, 0, none⟩) n (grownCap w9.drew n 0 5), .slice (some ⟨g, 0, none⟩) n n] (Lib.bytesWorld w9.drew 5 T) fun e w'' => e = .returned (.bool true) ∧ w'' = Lib.bytesWorld w9.drew 5 T) := Lib.hid (HE.out w9.drew hb9.drew)
  clear c0 c1 c2 c3 c4 c5 HE hw9
  go_region_held (fun w' => CS w q pp g n T n 0 .nilIface w')
    (first
      | with_reducible assumption
      | exact CS.of h0 hb9.drew
      | exact CS.of h0 ((‹CS w q pp g n T _ _ _ _›).2.2.2.2.2.2.trans ((Lib.bytesWorld_below _ _ _).mono (‹CS w q pp g n T _ _ _ _›).2.2.2.2.2.2.size)))
    ((go_at_call 151; (with_reducible refine HE9.out.mono ?_); rintro e w2 ⟨rfl, rfl⟩))
  all_goals
    have hb2 : Below w.heap.size w (Lib.bytesWorld w9.drew 5 T) := hb9.drew.trans ((Lib.bytesWorld_below _ _ _).mono hb9.size)
    clear HE9 d0 d1 d2 d3 d4 d5
    generalize Lib.bytesWorld w9.drew 5 T = w2 at *
    obtain ⟨d0, d1, d2, d3, d4, d5, _⟩ := CS.of h0 hb2
    go_wp2
    go_quiet (fail)
    go_wp2
    go_quiet (fail)
    go_wp2_with (go_at_call 152; (with_reducible refine (HVE.out _ (by first | exact below_drewN hb2 _ | exact below_drewN (below_drewN hb2 _) _)).mono ?_); rintro e w3 ⟨rfl, hb3⟩; obtain ⟨f0, f1, f2, f3, f4, f5, _⟩ := CS.of h0 hb3)
    go_ret
    exact ⟨rfl, hb3⟩

set_option maxRecDepth 100000 in
set_option maxHeartbeats 8000000 in
theorem validate_fixY (q pp g n m : Nat) (T U V : ByteArray) (pl : Value) (w : World) (h0 : CS w q pp g n T n ((m : Int) * 8) (.iface 177 pl) w) (hU : At w g 0 U.data.toList) (hn : U.size = n) (hn1 : 1 ≤ n) (hm : 1 ≤ m) (hV : V.size = m)
    (hT : T.size = n + m) (hlim : n + m ≤ 1000000) (hxU : T.extract 0 n = U) (hxV : T.extract n T.size = V) (hs : SaysY pl V) (hp : MindsY pl V) (he : Env w) :
    Calls Tryz.prog 75 #[.pointer (some ⟨q, 0, none⟩)] w fun e w' => e = .returned .nilIface ∧ Below w.heap.size w w' := by
  have h00 := h0
  obtain ⟨c0, c1, c2, c3, c4, c5, _⟩ := h00
  have HVE : Hid (∀ w', Below w.heap.size w w' → Calls Tryz.prog 152 #[.pointer (some ⟨q, 0, none⟩)] w' fun e w'' => ∃ s, e = .returned (.tuple #[.string s, .nilIface]) ∧ Below w.heap.size w w'') := Lib.hid fun w' hb => by
    obtain ⟨d0, d1, d2, d3, d4, d5, _⟩ := CS.of h0 hb
    refine (valueAndErrY q pp T V n pl w' ⟨d0, d1, d2, d5, Below.refl _ _⟩ (by omega) hxV (by omega) hs (he.up hb)).mono ?_
    rintro e w'' ⟨s, rfl, hb2⟩
    exact ⟨s, rfl, hb.trans (hb2.mono hb.size)⟩
  have HE0 := Lib.hid he
  have HP := Lib.hid hp; clear hp hs he
  have hxV2 : T.extract n (n + m) = V := by rw [← hT]; exact hxV
  have hg : g < w.heap.size := hU.lt (by rw [Array.length_toList]; show 0 < U.size; omega)
  have hcv := conv_string
  have hM := method_val pl
  have k1 : (n : Int) ≤ (T.size : Int) := by omega
  have k2 : decide ((T.size : Int) < (n : Int)) = false := by simp; omega
  have k3 : ((n : Int) == 0) = false := by simp; omega
  have k4 : decide ((m : Int) * 8 < 0) = false := by simp; omega
  have k5 : ((m : Int) * 8).tdiv 8 = (m : Int) := Int.mul_tdiv_cancel _ (by decide)
  have k7 : IntKind.i64.wrap ((n : Int) + (m : Int)) = (n : Int) + (m : Int) := IntWalk.i64_in _ (by omega)
  have k6 : IntKind.i64.wrap (m : Int) = m := IntWalk.i64_in _ (by omega)
  have HE : Hid (∀ w', Below w.heap.size w w' → Calls Tryz.prog 151 #[.slice (some ⟨w'.heap.size, 0, none⟩) n (grownCap w' n 0 5), .slice (some ⟨g, 0, none⟩) n n] (Lib.bytesWorld w' 5 U) fun e w'' => e = .returned (.bool true) ∧ w'' = Lib.bytesWorld w' 5 U) := Lib.hid fun w' hb => by
    have := equalAt (bytesWorld_at w' U) ((hU.below hb hg).below (Lib.bytesWorld_below _ _ _) (Nat.lt_of_lt_of_le hg hb.size)) (grownCap w' n 0 5) n
    rw [Array.length_toList, show U.data.size = n from hn] at this
    exact this
  clear hU
  go_enter Tryz.func75, Tryz.ntmps75
  go_wp2
  go_quiet (fail)
  go_wp2
  go_quiet (fail)
  go_wp2
  generalize hw9 : World.drewN (World.drewN w _) _ = w9
  have hb9 : Below w.heap.size w w9 := by rw [← hw9]; exact below_drewN (below_drewN (Below.refl _ _) _) _
  have h9 := CS.of h0 hb9
  have h09 := h9
  obtain ⟨d0, d1, d2, d3, d4, d5, _⟩ := h9
  have HE9 : Hid (Calls Tryz.prog 151 #[.slice (some ⟨w9.heap.size, 0, none⟩) n (grownCap w9.drew n 0 5), .slice (some ⟨g, 0, none⟩) n n] (Lib.bytesWorld w9.drew 5 U) fun e w'' => e = .returned (.bool true) ∧ w'' = Lib.bytesWorld w9.drew 5 U) := Lib.hid (HE.out w9.drew hb9.drew)
  clear c0 c1 c2 c3 c4 c5 HE hw9
  go_region_held (fun w' => CS w q pp g n T n ((m : Int) * 8) (.iface 177 pl) w')
    (first
      | with_reducible assumption
      | exact CS.of h0 hb9.drew
      | exact CS.of h0 ((‹CS w q pp g n T _ _ _ _›).2.2.2.2.2.2.trans ((Lib.bytesWorld_below _ _ _).mono (‹CS w q pp g n T _ _ _ _›).2.2.2.2.2.2.size)))
    ((go_at_call 151; (with_reducible refine HE9.out.mono ?_); rintro e w2 ⟨rfl, rfl⟩))
  all_goals
    have hb2 : Below w.heap.size w (Lib.bytesWorld w9.drew 5 U) := hb9.drew.trans ((Lib.bytesWorld_below _ _ _).mono hb9.size)
    clear HE9 d0 d1 d2 d3 d4 d5
    generalize Lib.bytesWorld w9.drew 5 U = w2 at *
    obtain ⟨d0, d1, d2, d3, d4, d5, _⟩ := CS.of h0 hb2
    go_wp2
    go_quiet (fail)
    go_wp2
    go_quiet (fail)
    go_wp2_with (go_at_call 152; (with_reducible refine (HVE.out _ (by first | exact below_drewN hb2 _ | exact below_drewN (below_drewN hb2 _) _)).mono ?_); rintro e w3 ⟨s, rfl, hb3⟩; obtain ⟨f0, f1, f2, f3, f4, f5, _⟩ := CS.of h0 hb3)
    have HP3 : Hid (Calls Tryz.prog 430 #[pl, .slice (some ⟨w3.heap.size, 0, none⟩) m (grownCap w3.drew m 0 5)] (Lib.bytesWorld w3.drew 5 V) fun e w'' => e = .returned .nilIface ∧ Below w.heap.size w w'') := Lib.hid (by
      have hbx : Below w.heap.size w (Lib.bytesWorld w3.drew 5 V) := hb3.drew.trans ((Lib.bytesWorld_below _ _ _).mono hb3.size)
      have := HP.out _ _ 0 (grownCap w3.drew m 0 5) (by rw [hV]; exact le_grown _ _) (HE0.out.up hbx) (bytesWorld_at w3.drew V)
      rw [hV] at this
      refine this.mono ?_
      rintro e w4 ⟨rfl, hb4⟩
      exact ⟨rfl, hbx.trans (hb4.mono hbx.size)⟩)
    clear HVE HP d0 d1 d2 d3 d4 d5
    go_region_held (fun w' => CS w q pp g n T n ((m : Int) * 8) (.iface 177 pl) w')
      (first
        | with_reducible assumption
        | exact CS.of h0 hb3.drew
        | exact CS.of h0 hb5
        | exact CS.of h0 ((‹CS w q pp g n T _ _ _ _›).2.2.2.2.2.2.trans ((Lib.bytesWorld_below _ _ _).mono (‹CS w q pp g n T _ _ _ _›).2.2.2.2.2.2.size)))
      ((go_at_call 430; (with_reducible refine HP3.out.mono ?_); rintro e w5 ⟨rfl, hb5⟩))
    all_goals
      go_wp2
      go_ret
      exact ⟨rfl, hb5⟩

set_option maxRecDepth 100000 in
set_option maxHeartbeats 8000000 in
theorem validate_fixA (q pp g n m : Nat) (T U V : ByteArray) (pl : Value) (w : World) (h0 : CS w q pp g n T n ((m : Int) * 8) (.iface 177 pl) w) (hU : At w g 0 U.data.toList) (hn : U.size = n) (hn1 : 1 ≤ n) (hm : 1 ≤ m) (hV : V.size = m)
    (hT : T.size = n + m) (hlim : n + m ≤ 1000000) (hxU : T.extract 0 n = U) (hxV : T.extract n T.size = V) (hs : SaysN pl V) (he : Env w) :
    Calls Tryz.prog 75 #[.pointer (some ⟨q, 0, none⟩)] w fun e w' => ∃ t p, e = .returned (.iface t p) ∧ Below w.heap.size w w' := by
  have h00 := h0
  obtain ⟨c0, c1, c2, c3, c4, c5, _⟩ := h00
  have HVE : Hid (∀ w', Below w.heap.size w w' → Calls Tryz.prog 152 #[.pointer (some ⟨q, 0, none⟩)] w' fun e w'' => ∃ s t p, e = .returned (.tuple #[.string s, .iface t p]) ∧ Below w.heap.size w w'') := Lib.hid fun w' hb => by
    obtain ⟨d0, d1, d2, d3, d4, d5, _⟩ := CS.of h0 hb
    refine (valueAndErrN q pp T V n pl w' ⟨d0, d1, d2, d5, Below.refl _ _⟩ (by omega) hxV (by omega) hs (he.up hb)).mono ?_
    rintro e w'' ⟨s, t, p, rfl, hb2⟩
    exact ⟨s, t, p, rfl, hb.trans (hb2.mono hb.size)⟩
  have HE0 := Lib.hid he
  clear hs he
  have hxV2 : T.extract n (n + m) = V := by rw [← hT]; exact hxV
  have hg : g < w.heap.size := hU.lt (by rw [Array.length_toList]; show 0 < U.size; omega)
  have hcv := conv_string
  have k1 : (n : Int) ≤ (T.size : Int) := by omega
  have k2 : decide ((T.size : Int) < (n : Int)) = false := by simp; omega
  have k3 : ((n : Int) == 0) = false := by simp; omega
  have k4 : decide ((m : Int) * 8 < 0) = false := by simp; omega
  have k5 : ((m : Int) * 8).tdiv 8 = (m : Int) := Int.mul_tdiv_cancel _ (by decide)
  have k7 : IntKind.i64.wrap ((n : Int) + (m : Int)) = (n : Int) + (m : Int) := IntWalk.i64_in _ (by omega)
  have k6 : IntKind.i64.wrap (m : Int) = m := IntWalk.i64_in _ (by omega)
  have HE : Hid (∀ w', Below w.heap.size w w' → Calls Tryz.prog 151 #[.slice (some ⟨w'.heap.size, 0, none⟩) n (grownCap w' n 0 5), .slice (some ⟨g, 0, none⟩) n n] (Lib.bytesWorld w' 5 U) fun e w'' => e = .returned (.bool true) ∧ w'' = Lib.bytesWorld w' 5 U) := Lib.hid fun w' hb => by
    have := equalAt (bytesWorld_at w' U) ((hU.below hb hg).below (Lib.bytesWorld_below _ _ _) (Nat.lt_of_lt_of_le hg hb.size)) (grownCap w' n 0 5) n
    rw [Array.length_toList, show U.data.size = n from hn] at this
    exact this
  clear hU
  go_enter Tryz.func75, Tryz.ntmps75
  go_wp2
  go_quiet (fail)
  go_wp2
  go_quiet (fail)
  go_wp2
  generalize hw9 : World.drewN (World.drewN w _) _ = w9
  have hb9 : Below w.heap.size w w9 := by rw [← hw9]; exact below_drewN (below_drewN (Below.refl _ _) _) _
  have h9 := CS.of h0 hb9
  have h09 := h9
  obtain ⟨d0, d1, d2, d3, d4, d5, _⟩ := h9
  have HE9 : Hid (Calls Tryz.prog 151 #[.slice (some ⟨w9.heap.size, 0, none⟩) n (grownCap w9.drew n 0 5), .slice (some ⟨g, 0, none⟩) n n] (Lib.bytesWorld w9.drew 5 U) fun e w'' => e = .returned (.bool true) ∧ w'' = Lib.bytesWorld w9.drew 5 U) := Lib.hid (HE.out w9.drew hb9.drew)
  clear c0 c1 c2 c3 c4 c5 HE hw9
  go_region_held (fun w' => CS w q pp g n T n ((m : Int) * 8) (.iface 177 pl) w')
    (first
      | with_reducible assumption
      | exact CS.of h0 hb9.drew
      | exact CS.of h0 ((‹CS w q pp g n T _ _ _ _›).2.2.2.2.2.2.trans ((Lib.bytesWorld_below _ _ _).mono (‹CS w q pp g n T _ _ _ _›).2.2.2.2.2.2.size)))
    ((go_at_call 151; (with_reducible refine HE9.out.mono ?_); rintro e w2 ⟨rfl, rfl⟩))
  all_goals
    have hb2 : Below w.heap.size w (Lib.bytesWorld w9.drew 5 U) := hb9.drew.trans ((Lib.bytesWorld_below _ _ _).mono hb9.size)
    clear HE9 d0 d1 d2 d3 d4 d5
    generalize Lib.bytesWorld w9.drew 5 U = w2 at *
    obtain ⟨d0, d1, d2, d3, d4, d5, _⟩ := CS.of h0 hb2
    go_wp2
    go_quiet (fail)
    go_wp2
    go_quiet (fail)
    go_wp2_with (go_at_call 152; (with_reducible refine (HVE.out _ (by first | exact below_drewN hb2 _ | exact below_drewN (below_drewN hb2 _) _)).mono ?_); rintro e w3 ⟨s, t, p, rfl, hb3⟩; obtain ⟨f0, f1, f2, f3, f4, f5, _⟩ := CS.of h0 hb3)
    go_ret
    exact ⟨t, p, rfl, hb3⟩

set_option maxRecDepth 100000 in
set_option maxHeartbeats 8000000 in
theorem validate_fixB (q pp g n m : Nat) (T U V : ByteArray) (pl : Value) (w : World) (h0 : CS w q pp g n T n ((m : Int) * 8) (.iface 177 pl) w) (hU : At w g 0 U.data.toList) (hn : U.size = n) (hn1 : 1 ≤ n) (hm : 1 ≤ m) (hV : V.size = m)
    (hT : T.size = n + m) (hlim : n + m ≤ 1000000) (hxU : T.extract 0 n = U) (hxV : T.extract n T.size = V) (hs : SaysY pl V) (hp : MindsN pl V) (he : Env w) :
    Calls Tryz.prog 75 #[.pointer (some ⟨q, 0, none⟩)] w fun e w' => ∃ t p, e = .returned (.iface t p) ∧ Below w.heap.size w w' := by
  have h00 := h0
  obtain ⟨c0, c1, c2, c3, c4, c5, _⟩ := h00
  have HVE : Hid (∀ w', Below w.heap.size w w' → Calls Tryz.prog 152 #[.pointer (some ⟨q, 0, none⟩)] w' fun e w'' => ∃ s, e = .returned (.tuple #[.string s, .nilIface]) ∧ Below w.heap.size w w'') := Lib.hid fun w' hb => by
    obtain ⟨d0, d1, d2, d3, d4, d5, _⟩ := CS.of h0 hb
    refine (valueAndErrY q pp T V n pl w' ⟨d0, d1, d2, d5, Below.refl _ _⟩ (by omega) hxV (by omega) hs (he.up hb)).mono ?_
    rintro e w'' ⟨s, rfl, hb2⟩
    exact ⟨s, rfl, hb.trans (hb2.mono hb.size)⟩
  have HE0 := Lib.hid he
  have HP := Lib.hid hp; clear hp hs he
  have hxV2 : T.extract n (n + m) = V := by rw [← hT]; exact hxV
  have hg : g < w.heap.size := hU.lt (by rw [Array.length_toList]; show 0 < U.size; omega)
  have hcv := conv_string
  have hM := method_val pl
  have k1 : (n : Int) ≤ (T.size : Int) := by omega
  have k2 : decide ((T.size : Int) < (n : Int)) = false := by simp; omega
  have k3 : ((n : Int) == 0) = false := by simp; omega
  have k4 : decide ((m : Int) * 8 < 0) = false := by simp; omega
  have k5 : ((m : Int) * 8).tdiv 8 = (m : Int) := Int.mul_tdiv_cancel _ (by decide)
  have k7 : IntKind.i64.wrap ((n : Int) + (m : Int)) = (n : Int) + (m : Int) := IntWalk.i64_in _ (by omega)
  have k6 : IntKind.i64.wrap (m : Int) = m := IntWalk.i64_in _ (by omega)
  have HE : Hid (∀ w', Below w.heap.size w w' → Calls Tryz.prog 151 #[.slice (some ⟨w'.heap.size, 0, none⟩) n (grownCap w' n 0 5), .slice (some ⟨g, 0, none⟩) n n] (Lib.bytesWorld w' 5 U) fun e w'' => e = .returned (.bool true) ∧ w'' = Lib.bytesWorld w' 5 U) := Lib.hid fun w' hb => by
    have := equalAt (bytesWorld_at w' U) ((hU.below hb hg).below (Lib.bytesWorld_below _ _ _) (Nat.lt_of_lt_of_le hg hb.size)) (grownCap w' n 0 5) n
    rw [Array.length_toList, show U.data.size = n from hn] at this
    exact this
  clear hU
  go_enter Tryz.func75, Tryz.ntmps75
  go_wp2
  go_quiet (fail)
  go_wp2
  go_quiet (fail)
  go_wp2
  generalize hw9 : World.drewN (World.drewN w _) _ = w9
  have hb9 : Below w.heap.size w w9 := by rw [← hw9]; exact below_drewN (below_drewN (Below.refl _ _) _) _
  have h9 := CS.of h0 hb9
  have h09 := h9
  obtain ⟨d0, d1, d2, d3, d4, d5, _⟩ := h9
  have HE9 : Hid (Calls Tryz.prog 151 #[.slice (some ⟨w9.heap.size, 0, none⟩) n (grownCap w9.drew n 0 5), .slice (some ⟨g, 0, none⟩) n n] (Lib.bytesWorld w9.drew 5 U) fun e w'' => e = .returned (.bool true) ∧ w'' = Lib.bytesWorld w9.drew 5 U) := Lib.hid (HE.out w9.drew hb9.drew)
  clear c0 c1 c2 c3 c4 c5 HE hw9
  go_region_held (fun w' => CS w q pp g n T n ((m : Int) * 8) (.iface 177 pl) w')
    (first
      | with_reducible assumption
      | exact CS.of h0 hb9.drew
      | exact CS.of h0 ((‹CS w q pp g n T _ _ _ _›).2.2.2.2.2.2.trans ((Lib.bytesWorld_below _ _ _).mono (‹CS w q pp g n T _ _ _ _›).2.2.2.2.2.2.size)))
    ((go_at_call 151; (with_reducible refine HE9.out.mono ?_); rintro e w2 ⟨rfl, rfl⟩))
  all_goals
    have hb2 : Below w.heap.size w (Lib.bytesWorld w9.drew 5 U) := hb9.drew.trans ((Lib.bytesWorld_below _ _ _).mono hb9.size)
    clear HE9 d0 d1 d2 d3 d4 d5
    generalize Lib.bytesWorld w9.drew 5 U = w2 at *
    obtain ⟨d0, d1, d2, d3, d4, d5, _⟩ := CS.of h0 hb2
    go_wp2
    go_quiet (fail)
    go_wp2
    go_quiet (fail)
    go_wp2_with (go_at_call 152; (with_reducible refine (HVE.out _ (by first | exact below_drewN hb2 _ | exact below_drewN (below_drewN hb2 _) _)).mono ?_); rintro e w3 ⟨s, rfl, hb3⟩; obtain ⟨f0, f1, f2, f3, f4, f5, _⟩ := CS.of h0 hb3)
    have HP3 : Hid (Calls Tryz.prog 430 #[pl, .slice (some ⟨w3.heap.size, 0, none⟩) m (grownCap w3.drew m 0 5)] (Lib.bytesWorld w3.drew 5 V) fun e w'' => ∃ t p, e = .returned (.iface t p) ∧ Below w.heap.size w w'') := Lib.hid (by
      have hbx : Below w.heap.size w (Lib.bytesWorld w3.drew 5 V) := hb3.drew.trans ((Lib.bytesWorld_below _ _ _).mono hb3.size)
      have := HP.out _ _ 0 (grownCap w3.drew m 0 5) (by rw [hV]; exact le_grown _ _) (HE0.out.up hbx) (bytesWorld_at w3.drew V)
      rw [hV] at this
      refine this.mono ?_
      rintro e w4 ⟨t, p, rfl, hb4⟩
      exact ⟨t, p, rfl, hbx.trans (hb4.mono hbx.size)⟩)
    clear HVE HP d0 d1 d2 d3 d4 d5
    go_region_held (fun w' => CS w q pp g n T n ((m : Int) * 8) (.iface 177 pl) w')
      (first
        | with_reducible assumption
        | exact CS.of h0 hb3.drew
        | exact CS.of h0 hb5
        | exact CS.of h0 ((‹CS w q pp g n T _ _ _ _›).2.2.2.2.2.2.trans ((Lib.bytesWorld_below _ _ _).mono (‹CS w q pp g n T _ _ _ _›).2.2.2.2.2.2.size)))
      ((go_at_call 430; (with_reducible refine HP3.out.mono ?_); rintro e w5 ⟨t, p, rfl, hb5⟩))
    all_goals
      go_wp2
      go_ret
      exact ⟨t, p, rfl, hb5⟩
end Go.Proofs.YtnpcmmjdojdmnaaGreatDoor
namespace Go.Proofs.YtnpcmmjdojdmnaaGreatDoor
open Go Go.RowKit

set_option maxRecDepth 100000 in
set_option maxHeartbeats 4000000 in
theorem zzCoded_none' (c : Int) (w : World) (h4 : (c == 4) = false) (h6 : (c == 6) = false) (h33 : (c == 33) = false) (h41 : (c == 41) = false) (h42 : (c == 42) = false) (h43 : (c == 43) = false) (h53 : (c == 53) = false) (h54 : (c == 54) = false) (h55 : (c == 55) = false) (h56 : (c == 56) = false) (h132 : (c == 132) = false) (h273 : (c == 273) = false) (h276 : (c == 276) = false) (h280 : (c == 280) = false) (h281 : (c == 281) = false) (h290 : (c == 290) = false) (h301 : (c == 301) = false) (h302 : (c == 302) = false) (h400 : (c == 400) = false) (h421 : (c == 421) = false) (h443 : (c == 443) = false) (h444 : (c == 444) = false) (h445 : (c == 445) = false) (h446 : (c == 446) = false) (h447 : (c == 447) = false) (h448 : (c == 448) = false) (h449 : (c == 449) = false) (h454 : (c == 454) = false) (h460 : (c == 460) = false) (h461 : (c == 461) = false) (h465 : (c == 465) = false) (h466 : (c == 466) = false) (h477 : (c == 477) = false) (h478 : (c == 478) = false) (h480 : (c == 480) = false) (h481 : (c == 481) = false) (h777 : (c == 777) = false) (h7367777 : (c == 7367777) = false) :
    Calls Tryz.prog 70 #[.int .i64 c] w fun e w' => e = .returned (.agg #[.string ⟨#[]⟩, .int .i64 0, .slice none 0 0, .int .i64 0, .bool false, .nilIface]) ∧ Below w.heap.size w w' := by
  go_enter Tryz.func70, Tryz.ntmps70
  go_wp2
  refine bodyPost_ret (v := .agg #[.string ⟨#[]⟩, .int .i64 0, .slice none 0 0, .int .i64 0, .bool false, .nilIface]) (by simp [results, Tryz.results70, go_sem]) rfl ⟨rfl, ?_⟩
  exact (Below.refl _ _).alloc (Nat.le_refl _) _

theorem zzCoded_none (c : Int) (hk : known c = false) (w : World) :
    Calls Tryz.prog 70 #[.int .i64 c] w fun e w' => e = .returned (.agg #[.string ⟨#[]⟩, .int .i64 0, .slice none 0 0, .int .i64 0, .bool false, .nilIface]) ∧ Below w.heap.size w w' := by
  rcases known_cases c with rfl | rfl | rfl | rfl | rfl | rfl | rfl | rfl | rfl | rfl | rfl | rfl | rfl | rfl | rfl | rfl | rfl | rfl | rfl | rfl | rfl | rfl | rfl | rfl | rfl | rfl | rfl | rfl | rfl | rfl | rfl | rfl | rfl | rfl | rfl | rfl | rfl | rfl | h
  all_goals first
    | (exfalso; exact absurd hk (by decide))
    | skip
  obtain ⟨h4, h6, h33, h41, h42, h43, h53, h54, h55, h56, h132, h273, h276, h280, h281, h290, h301, h302, h400, h421, h443, h444, h445, h446, h447, h448, h449, h454, h460, h461, h465, h466, h477, h478, h480, h481, h777, h7367777⟩ := h
  apply zzCoded_none' c w <;> simpa

set_option maxRecDepth 100000 in
set_option maxHeartbeats 4000000 in
theorem protocolWithCode_none (c : Int) (hk : known c = false) (w : World) : Calls Tryz.prog 47 #[.int .i64 c] w fun e w' => e = .returned (.agg #[.string ⟨#[]⟩, .int .i64 0, .slice none 0 0, .int .i64 0, .bool false, .nilIface]) ∧ Below w.heap.size w w' := by
  have HH := Lib.hid (zzCoded_none c hk)
  go_enter Tryz.func47, Tryz.ntmps47
  go_wp2_with (go_at_call 70; refine (HH.out _).mono ?_; rintro e w2 ⟨rfl, hb⟩; obtain ⟨hc, hf⟩ := bcell hb; have hz : w.heap.size < w2.heap.size := (by have := hb.size; simp at this; omega))
  refine bodyPost_ret (v := .agg #[.string ⟨#[]⟩, .int .i64 0, .slice none 0 0, .int .i64 0, .bool false, .nilIface]) (by simp [results, Tryz.results47, go_sem, hc]) rfl ⟨rfl, ?_⟩
  exact below_set6 (below_under hb) _ _ _ _ _ _
end Go.Proofs.YtnpcmmjdojdmnaaGreatDoor
