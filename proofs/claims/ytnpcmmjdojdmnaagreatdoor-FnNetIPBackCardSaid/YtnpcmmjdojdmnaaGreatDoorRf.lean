/- The transcoders of IP addresses with the table of powers in memory; valueAndErr, validateComponent there. -/
import Derived.Test.YtnpcmmjdojdmnaaGreatDoorRe
import Derived.Test.YtnpcmmjdojdmnaaGreatDoorQr
import Derived.Test.YtnpcmmjdojdmnaaGreatDoorQo
namespace Go.Proofs.YtnpcmmjdojdmnaaGreatDoor
open Go Go.RowKit Go.Sort

set_option maxRecDepth 100000 in
set_option maxHeartbeats 4000000 in
theorem ip4BtST (a b c d : UInt8) (g o cp : Nat) (w : World) (ht : Tab w) (h : At w g o [a, b, c, d]) :
    Calls Tryz.prog 200 #[.slice (some ⟨g, o, none⟩) 4 cp] w fun e w' => ∃ s, e = .returned (.tuple #[.string s, .nilIface]) ∧ Below w.heap.size w w' := by
  have HP := Lib.hid (ipString4' a b c d g o cp w ht h)
  clear h ht
  go_enter Tryz.func200, Tryz.ntmps200
  go_wp2_with (go_at_call 99; (with_reducible refine HP.out.mono ?_); rintro e w2 ⟨rfl, hbe⟩)
  go_ret2
  exact ⟨_, rfl, hbe⟩

set_option maxRecDepth 100000 in
set_option maxHeartbeats 4000000 in
theorem ip6BtS (l : List UInt8) (hl : l.length = 16) (hm : mapped l = false) (g o cp : Nat) (hcp : 16 ≤ cp) (w : World) (h : At w g o l) :
    Calls Tryz.prog 207 #[.slice (some ⟨g, o, none⟩) 16 cp] w fun e w' => ∃ s, e = .returned (.tuple #[.string s, .nilIface]) ∧ Below w.heap.size w w' := by
  have HP := Lib.hid (ipString6 l hl hm g o cp hcp w h)
  have H4 := Lib.hid (to4_none g o cp l w hl hcp h hm)
  clear h hm
  go_enter Tryz.func207, Tryz.ntmps207
  go_wp2_with (first
    | (go_at_call 97; (with_reducible refine H4.out.mono ?_); rintro e w2 ⟨rfl, rfl⟩)
    | (go_at_call 99; (with_reducible refine HP.out.mono ?_); rintro e w2 ⟨s, rfl, hv, hbe⟩))
  go_ret2
  exact ⟨s, rfl, hbe⟩

/-- A transcoder's words at a value, in a world with the table. -/
def SaysT (pl : Value) (V : ByteArray) : Prop := ∀ (w : World) (g o cp : Nat), V.size ≤ cp → Tab w → At w g o V.data.toList →
  Calls Tryz.prog 428 #[pl, .slice (some ⟨g, o, none⟩) V.size cp] w fun e w' => ∃ s, e = .returned (.tuple #[.string s, .nilIface]) ∧ Below w.heap.size w w'

set_option maxRecDepth 100000 in
set_option maxHeartbeats 4000000 in
theorem says4 (a b c d : UInt8) : SaysT (.agg #[.func (.func 199) #[] #[], .func (.func 200) #[] #[], .nilFunc]) ⟨#[a, b, c, d]⟩ := by
  intro w g o cp _ ht hc
  have HP : Hid (∀ ob, Calls Tryz.prog 200 #[.slice (some ⟨g, o, none⟩) 4 cp] (w.alloc ob) fun e w' => ∃ s, e = .returned (.tuple #[.string s, .nilIface]) ∧ Below (w.alloc ob).heap.size (w.alloc ob) w') :=
    Lib.hid fun ob => ip4BtST a b c d g o cp _ (ht.below ((Below.refl _ _).alloc (Nat.le_refl _) _) (Nat.le_refl _)) (At.below (l := [a, b, c, d]) hc ((Below.refl _ _).alloc (Nat.le_refl _) _) (At.lt (l := [a, b, c, d]) hc (by simp)))
  clear hc ht
  show Calls Tryz.prog 428 #[_, .slice (some ⟨g, o, none⟩) 4 cp] w _
  go_enter Tryz.func428, Tryz.ntmps428
  go_wp2_with (go_at_call 200; (with_reducible refine (HP.out _).mono ?_); rintro e w2 ⟨s, rfl, hb⟩)
  go_ret2
  exact ⟨s, rfl, below_under hb⟩

set_option maxRecDepth 100000 in
set_option maxHeartbeats 4000000 in
theorem says6 (l : List UInt8) (hl : l.length = 16) (hm : mapped l = false) : SaysT (.agg #[.func (.func 206) #[] #[], .func (.func 207) #[] #[], .nilFunc]) ⟨l.toArray⟩ := by
  intro w g o cp hcp ht hc
  have hsz : (⟨l.toArray⟩ : ByteArray).size = 16 := by show l.toArray.size = 16; rw [List.size_toArray]; exact hl
  rw [hsz] at hcp ⊢
  have HP : Hid (∀ ob, Calls Tryz.prog 207 #[.slice (some ⟨g, o, none⟩) 16 cp] (w.alloc ob) fun e w' => ∃ s, e = .returned (.tuple #[.string s, .nilIface]) ∧ Below (w.alloc ob).heap.size (w.alloc ob) w') :=
    Lib.hid fun ob => ip6BtS l hl hm g o cp hcp _ (At.below (l := l) hc ((Below.refl _ _).alloc (Nat.le_refl _) _) (At.lt (l := l) hc (by omega)))
  clear hc ht hsz hm
  go_enter Tryz.func428, Tryz.ntmps428
  go_wp2_with (go_at_call 207; (with_reducible refine (HP.out _).mono ?_); rintro e w2 ⟨s, rfl, hb⟩)
  go_ret2
  exact ⟨s, rfl, below_under hb⟩
set_option maxRecDepth 100000 in
set_option maxHeartbeats 4000000 in
theorem twStB206 (s : ByteArray) (l : List UInt8) (h : Reads 206 s l) (w : World) :
    Calls Tryz.prog 429 #[.agg #[.func (.func 206) #[] #[], .func (.func 207) #[] #[], .nilFunc], .string s] w fun e w' => ∃ v, e = .returned (.tuple #[v, .nilIface]) ∧ NewB w.heap.size w' v l ∧ Below w.heap.size w w' := by
  have HP := Lib.hid h; clear h
  go_enter Tryz.func429, Tryz.ntmps429
  go_wp2_with (go_at_call 206; refine (HP.out _).mono ?_; rintro e w2 ⟨v, rfl, ⟨g, o, cp, rfl, h2, h3, h4⟩, hb⟩)
  go_ret2
  exact ⟨_, rfl, ⟨g, o, cp, rfl, by simp at h2; omega, h3, h4⟩, below_under hb⟩

theorem le_grown (w : World) (n : Nat) : n ≤ grownCap w n 0 5 := grownCap_ge _ _ _ _

set_option maxRecDepth 100000 in
set_option maxHeartbeats 4000000 in
theorem valueAndErrT (q pp : Nat) (T V : ByteArray) (k : Nat) (pl : Value) (w : World) (h0 : VS w q pp T k (.iface 177 pl) w) (hk : k ≤ T.size) (hx : T.extract k T.size = V) (_hT : T.size ≤ 1000000) (hs : SaysT pl V) (ht : Tab w) :
    Calls Tryz.prog 152 #[.pointer (some ⟨q, 0, none⟩)] w fun e w' => ∃ s, e = .returned (.tuple #[.string s, .nilIface]) ∧ Below w.heap.size w w' := by
  have h00 := h0
  obtain ⟨c0, c1, c2, c3, _⟩ := h00
  have HS := Lib.hid hs; clear hs
  have hM := method_bts pl
  have hNA := nil_ahead_bts pl
  have hcv := conv_string
  have k1 : (k : Int) ≤ (T.size : Int) := by omega
  have HW : ∀ w', Below w.heap.size w w' → Hid (Calls Tryz.prog 428 #[pl, .slice (some ⟨w'.heap.size, 0, none⟩) V.size (grownCap w' V.size 0 5)] (Lib.bytesWorld w' 5 V) fun e w'' => ∃ s, e = .returned (.tuple #[.string s, .nilIface]) ∧ Below w.heap.size w w'') :=
    fun w' hb => Lib.hid ((HS.out _ _ 0 _ (le_grown _ _) (ht.below (hb.trans ((Lib.bytesWorld_below _ _ _).mono hb.size)) (Nat.le_refl _)) (bytesWorld_at w' V)).mono (by
      rintro e w'' ⟨s, rfl, hb2⟩
      refine ⟨s, rfl, (hb.trans ((Lib.bytesWorld_below _ _ _).mono hb.size)).trans (hb2.mono ?_)⟩
      rw [Lib.bytesWorld_size]; have := hb.size; omega))
  have HWd : Hid (Calls Tryz.prog 428 #[pl, .slice (some ⟨w.heap.size, 0, none⟩) V.size (grownCap w.drew V.size 0 5)] (Lib.bytesWorld w.drew 5 V) fun e w'' => ∃ s, e = .returned (.tuple #[.string s, .nilIface]) ∧ Below w.heap.size w w'') := HW w.drew ((Below.refl _ _).drew)
  clear HW HS ht
  go_enter Tryz.func152, Tryz.ntmps152
  go_wp2
  go_region_held (fun w' => VS w q pp T k (.iface 177 pl) w')
    (first
      | exact VS.of h0 ((Below.refl _ _).drew)
      | exact VS.of h0 hb2
      | exact VS.of h0 ((‹VS w q pp T k _ _›).2.2.2.2.trans ((Lib.bytesWorld_below _ _ _).mono (‹VS w q pp T k _ _›).2.2.2.2.size)))
    ((go_at_call 428; (with_reducible refine HWd.out.mono ?_); rintro e w2 ⟨s, rfl, hb2⟩))
  all_goals
    go_wp2
    go_ret2
    exact ⟨s, rfl, hb2⟩

set_option maxRecDepth 100000 in
set_option maxHeartbeats 4000000 in
theorem validate_fixT (q pp g n m : Nat) (T U V : ByteArray) (pl : Value) (w : World) (h0 : CS w q pp g n T n ((m : Int) * 8) (.iface 177 pl) w) (hU : At w g 0 U.data.toList) (hn : U.size = n) (hn1 : 1 ≤ n) (hm : 1 ≤ m) (hV : V.size = m)
    (hT : T.size = n + m) (hlim : n + m ≤ 1000000) (hxU : T.extract 0 n = U) (hxV : T.extract n T.size = V) (hs : SaysT pl V) (ht : Tab w) (hp : Passes pl V) :
    Calls Tryz.prog 75 #[.pointer (some ⟨q, 0, none⟩)] w fun e w' => e = .returned .nilIface ∧ Below w.heap.size w w' := by
  have h00 := h0
  obtain ⟨c0, c1, c2, c3, c4, c5, _⟩ := h00
  have HVE : Hid (∀ w', Below w.heap.size w w' → Calls Tryz.prog 152 #[.pointer (some ⟨q, 0, none⟩)] w' fun e w'' => ∃ s, e = .returned (.tuple #[.string s, .nilIface]) ∧ Below w.heap.size w w'') := Lib.hid fun w' hb => by
    obtain ⟨d0, d1, d2, d3, d4, d5, _⟩ := CS.of h0 hb
    refine (valueAndErrT q pp T V n pl w' ⟨d0, d1, d2, d5, Below.refl _ _⟩ (by omega) hxV (by omega) hs (ht.below hb (Nat.le_refl _))).mono ?_
    rintro e w'' ⟨s, rfl, hb2⟩
    exact ⟨s, rfl, hb.trans (hb2.mono hb.size)⟩
  have HP := Lib.hid hp; clear hp hs ht
  have hxV2 : T.extract n (n + m) = V := by rw [← hT]; exact hxV
  have hg : g < w.heap.size := hU.lt (by rw [Array.length_toList]; show 0 < U.size; omega)
  have hcv := conv_string
  have hM := method_val pl
  have k1 : (n : Int) ≤ (T.size : Int) := by omega
  have k2 : decide ((T.size : Int) < (n : Int)) = false := by simp; omega
  have k3 : ((n : Int) == 0) = false := by simp; omega
  have k4 : decide ((m : Int) * 8 < 0) = false := by simp; omega
  have k5 : ((m : Int) * 8).tdiv 8 = (m : Int) := Int.mul_tdiv_cancel _ (by decide)
  have k7 : IntKind.i64.wrap ((n : Int) + (m : Int)) = (n : Int) + (m : Int) := IntWalk.i64_in _ (by omega)
  have k6 : IntKind.i64.wrap (m : Int) = m := IntWalk.i64_in _ (by omega)
  have HE : Hid (∀ w', Below w.heap.size w w' → Calls Tryz.prog 151 #[.slice (some ⟨w'.heap.size, 0, none⟩) n (grownCap w' n 0 5), .slice (some ⟨g, 0, none⟩) n n] (Lib.bytesWorld w' 5 U) fun e w'' => e = .returned (.bool true) ∧ w'' = Lib.bytesWorld w' 5 U) := Lib.hid fun w' hb => by
    have := equalAt (bytesWorld_at w' U) ((hU.below hb hg).below (Lib.bytesWorld_below _ _ _) (Nat.lt_of_lt_of_le hg hb.size)) (grownCap w' n 0 5) n
    rw [Array.length_toList, show U.data.size = n from hn] at this
    exact this
  clear hU
  go_enter Tryz.func75, Tryz.ntmps75
  go_wp2
  go_quiet (fail)
  go_wp2
  go_quiet (fail)
  go_wp2
  generalize hw9 : World.drewN (World.drewN w _) _ = w9
  have hb9 : Below w.heap.size w w9 := by rw [← hw9]; exact below_drewN (below_drewN (Below.refl _ _) _) _
  have h9 := CS.of h0 hb9
  have h09 := h9
  obtain ⟨d0, d1, d2, d3, d4, d5, _⟩ := h9
  have HE9 : Hid (Calls Tryz.prog 151 #[.slice (some ⟨w9.heap.size, 0, none⟩) n (grownCap w9.drew n 0 5), .slice (some ⟨g, 0, none⟩) n n] (Lib.bytesWorld w9.drew 5 U) fun e w'' => e = .returned (.bool true) ∧ w'' = Lib.bytesWorld w9.drew 5 U) := Lib.hid (HE.out w9.drew hb9.drew)
  clear c0 c1 c2 c3 c4 c5 HE hw9
  go_region_held (fun w' => CS w q pp g n T n ((m : Int) * 8) (.iface 177 pl) w')
    (first
      | with_reducible assumption
      | exact CS.of h0 hb9.drew
      | exact CS.of h0 ((‹CS w q pp g n T n _ _ _›).2.2.2.2.2.2.trans ((Lib.bytesWorld_below _ _ _).mono (‹CS w q pp g n T n _ _ _›).2.2.2.2.2.2.size)))
    ((go_at_call 151; (with_reducible refine HE9.out.mono ?_); rintro e w2 ⟨rfl, rfl⟩))
  all_goals
    have hb2 : Below w.heap.size w (Lib.bytesWorld w9.drew 5 U) := hb9.drew.trans ((Lib.bytesWorld_below _ _ _).mono hb9.size)
    clear HE9 d0 d1 d2 d3 d4 d5
    generalize Lib.bytesWorld w9.drew 5 U = w2 at *
    obtain ⟨d0, d1, d2, d3, d4, d5, _⟩ := CS.of h0 hb2
    go_wp2
    go_quiet (fail)
    go_wp2
    go_quiet (fail)
    go_wp2_with (go_at_call 152; (with_reducible refine (HVE.out _ (by first | exact below_drewN hb2 _ | exact below_drewN (below_drewN hb2 _) _)).mono ?_); rintro e w3 ⟨s, rfl, hb3⟩; obtain ⟨f0, f1, f2, f3, f4, f5, _⟩ := CS.of h0 hb3)
    have HP3 : Hid (Calls Tryz.prog 430 #[pl, .slice (some ⟨w3.heap.size, 0, none⟩) m (grownCap w3.drew m 0 5)] (Lib.bytesWorld w3.drew 5 V) fun e w'' => e = .returned .nilIface ∧ Below w.heap.size w w'') := Lib.hid (by
      have := HP.out _ _ 0 (grownCap w3.drew m 0 5) (bytesWorld_at w3.drew V)
      rw [hV] at this
      refine this.mono ?_
      rintro e w4 ⟨rfl, hb4⟩
      exact ⟨rfl, (hb3.drew.trans ((Lib.bytesWorld_below _ _ _).mono hb3.size)).trans (hb4.mono (by rw [Lib.bytesWorld_size]; have := hb3.size; show _ ≤ w3.heap.size + 1; omega))⟩)
    clear HVE HP d0 d1 d2 d3 d4 d5
    go_region_held (fun w' => CS w q pp g n T n ((m : Int) * 8) (.iface 177 pl) w')
      (first
        | with_reducible assumption
        | exact CS.of h0 hb3.drew
        | exact CS.of h0 hb5
        | exact CS.of h0 ((‹CS w q pp g n T n _ _ _›).2.2.2.2.2.2.trans ((Lib.bytesWorld_below _ _ _).mono (‹CS w q pp g n T n _ _ _›).2.2.2.2.2.2.size)))
      ((go_at_call 430; (with_reducible refine HP3.out.mono ?_); rintro e w5 ⟨rfl, hb5⟩))
    all_goals
      go_wp2
      go_ret
      exact ⟨rfl, hb5⟩

/-- What is known of a component whose value has a fixed length: its code is read, its transcoder lets the value pass and speaks. -/
structure FixedT (c : Int) (l : List UInt8) : Prop where
  known : known c = true
  size : psz c = (l.length : Int) * 8
  pos : 1 ≤ l.length
  code : ReadsCode c.toNat
  path : ppath c = false
  tc : ∃ pl, tcv c = .iface 177 pl ∧ SaysT pl ⟨l.toArray⟩ ∧ Passes pl ⟨l.toArray⟩

theorem validate_newT {c : Int} {l : List UInt8} (h : FixedT c l) (hlim : (compBytes c l).length ≤ 1000000) {B : Nat} (w3 : World) (ht : Tab w3) (pp : Nat) (hp : ProtoAt B w3 pp c) :
    Calls Tryz.prog 75 #[.pointer (some ⟨w3.heap.size, 0, none⟩)] (w3.alloc (.cells #[.string ⟨(compBytes c l).toArray⟩, .pointer (some ⟨pp, 0, none⟩), .int .i64 (Lib.uvarint c.toNat).length] 50)) fun e w' =>
      e = .returned .nilIface ∧ Below (w3.heap.size + 1) (w3.alloc (.cells #[.string ⟨(compBytes c l).toArray⟩, .pointer (some ⟨pp, 0, none⟩), .int .i64 (Lib.uvarint c.toNat).length] 50)) w' := by
  obtain ⟨hk, hsz, hm, hrc, hpath, pl, htc, hsay, hpass⟩ := h
  have hcb : compBytes c l = Lib.uvarint c.toNat ++ l := by rw [compBytes, if_neg (by omega), List.append_nil]
  obtain ⟨hp1, hp2, vc, ⟨g, hg1, hg2, rfl, hg4⟩, p0, p1, p2, p3, p4, p5⟩ := hp
  have hup := Lib.uvarint_pos c.toNat
  have hlt : ∀ o j, (w3.alloc o).cell? ⟨pp, j, none⟩ = w3.cell? ⟨pp, j, none⟩ := fun o j => World.cell?_alloc_past _ _ _ hp2
  have h0 : CS (w3.alloc (.cells #[.string ⟨(compBytes c l).toArray⟩, .pointer (some ⟨pp, 0, none⟩), .int .i64 (Lib.uvarint c.toNat).length] 50)) w3.heap.size pp g (Lib.uvarint c.toNat).length ⟨(compBytes c l).toArray⟩ (Lib.uvarint c.toNat).length ((l.length : Int) * 8) (.iface 177 pl)
      (w3.alloc (.cells #[.string ⟨(compBytes c l).toArray⟩, .pointer (some ⟨pp, 0, none⟩), .int .i64 (Lib.uvarint c.toNat).length] 50)) := by
    refine ⟨by simp [go_sem], by simp [go_sem], by simp [go_sem], (hlt _ 2).trans p2, (hlt _ 3).trans (by rw [p3, hsz]), (hlt _ 5).trans (by rw [p5, htc]), Below.refl _ _⟩
  have hU : At (w3.alloc (.cells #[.string ⟨(compBytes c l).toArray⟩, .pointer (some ⟨pp, 0, none⟩), .int .i64 (Lib.uvarint c.toNat).length] 50)) g 0 (⟨(Lib.uvarint c.toNat).toArray⟩ : ByteArray).data.toList := fun j hj => by
    rw [Nat.zero_add, World.cell?_alloc_past _ _ _ hg2]
    exact hg4 j hj
  have hTs : (⟨(compBytes c l).toArray⟩ : ByteArray).size = (Lib.uvarint c.toNat).length + l.length := by
    show (compBytes c l).toArray.size = _
    rw [List.size_toArray, hcb, List.length_append]
  have hxt : ∀ a b, (⟨(compBytes c l).toArray⟩ : ByteArray).extract a b = ⟨(((compBytes c l).drop a).take (b - a)).toArray⟩ := fun a b => by
    refine ByteArray.ext (Array.toList_inj.1 ?_)
    rw [ByteArray.data_extract, Array.toList_extract, List.extract_eq_take_drop]
  refine (validate_fixT w3.heap.size pp g (Lib.uvarint c.toNat).length l.length ⟨(compBytes c l).toArray⟩ ⟨(Lib.uvarint c.toNat).toArray⟩ ⟨l.toArray⟩ pl _ h0 hU (by show (Lib.uvarint c.toNat).toArray.size = _; simp) hup hm (by show l.toArray.size = _; simp) hTs
    (by rw [hcb, List.length_append] at hlim; exact hlim) ?_ ?_ hsay (ht.below ((Below.refl _ _).alloc (Nat.le_refl _) _) (Nat.le_refl _)) hpass).mono ?_
  · rw [hxt, hcb]; simp
  · rw [hxt, hTs, hcb]; simp
  · rintro e w' ⟨rfl, hb⟩
    exact ⟨rfl, by simpa using hb⟩

end Go.Proofs.YtnpcmmjdojdmnaaGreatDoor
