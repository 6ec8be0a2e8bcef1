/- The transcoders of IP addresses with the table of powers in memory; valueAndErr, validateComponent there. newComponent, NewComponent at a value of fixed length. Code, RawValue, Protocol of a component; one, Multiaddr. Multiaddr of a component, components of an address of one, FromIP. FromIP: an IP address becomes an address of one component. impl.address; ToIP, NetToIP. -/
import Derived.Test.YtnpcmmjdojdmnaaGreatDoorRd
import Derived.Test.YtnpcmmjdojdmnaaGreatDoorQr
import Derived.Test.YtnpcmmjdojdmnaaGreatDoorQo
import Derived.Laws.IdiomCopy
namespace Go.Proofs.YtnpcmmjdojdmnaaGreatDoor
open Go Go.RowKit Go.Sort

set_option maxRecDepth 100000 in
set_option maxHeartbeats 4000000 in
theorem ip4BtST (a b c d : UInt8) (g o cp : Nat) (w : World) (ht : Tab w) (h : At w g o [a, b, c, d]) :
    Calls Tryz.prog 200 #[.slice (some ⟨g, o, none⟩) 4 cp] w fun e w' => ∃ s, e = .returned (.tuple #[.string s, .nilIface]) ∧ Below w.heap.size w w' := by
  have HP := Lib.hid (ipString4' a b c d g o cp w ht h)
  clear h ht
  go_enter Tryz.func200, Tryz.ntmps200
  go_wp2_with (go_at_call 99; (with_reducible refine HP.out.mono ?_); rintro e w2 ⟨rfl, hbe⟩)
  go_ret2
  exact ⟨_, rfl, hbe⟩

set_option maxRecDepth 100000 in
set_option maxHeartbeats 4000000 in
theorem ip6BtS (l : List UInt8) (hl : l.length = 16) (hm : mapped l = false) (g o cp : Nat) (hcp : 16 ≤ cp) (w : World) (h : At w g o l) :
    Calls Tryz.prog 207 #[.slice (some ⟨g, o, none⟩) 16 cp] w fun e w' => ∃ s, e = .returned (.tuple #[.string s, .nilIface]) ∧ Below w.heap.size w w' := by
  have HP := Lib.hid (ipString6 l hl hm g o cp hcp w h)
  have H4 := Lib.hid (to4_none g o cp l w hl hcp h hm)
  clear h hm
  go_enter Tryz.func207, Tryz.ntmps207
  go_wp2_with (first
    | (go_at_call 97; (with_reducible refine H4.out.mono ?_); rintro e w2 ⟨rfl, rfl⟩)
    | (go_at_call 99; (with_reducible refine HP.out.mono ?_); rintro e w2 ⟨s, rfl, hv, hbe⟩))
  go_ret2
  exact ⟨s, rfl, hbe⟩

/-- A transcoder's words at a value, in a world with the table. -/
def SaysT (pl : Value) (V : ByteArray) : Prop := ∀ (w : World) (g o cp : Nat), V.size ≤ cp → Tab w → At w g o V.data.toList →
  Calls Tryz.prog 428 #[pl, .slice (some ⟨g, o, none⟩) V.size cp] w fun e w' => ∃ s, e = .returned (.tuple #[.string s, .nilIface]) ∧ Below w.heap.size w w'

set_option maxRecDepth 100000 in
set_option maxHeartbeats 4000000 in
theorem says4 (a b c d : UInt8) : SaysT (.agg #[.func (.func 199) #[] #[], .func (.func 200) #[] #[], .nilFunc]) ⟨#[a, b, c, d]⟩ := by
  intro w g o cp _ ht hc
  have HP : Hid (∀ ob, Calls Tryz.prog 200 #[.slice (some ⟨g, o, none⟩) 4 cp] (w.alloc ob) fun e w' => ∃ s, e = .returned (.tuple #[.string s, .nilIface]) ∧ Below (w.alloc ob).heap.size (w.alloc ob) w') :=
    Lib.hid fun ob => ip4BtST a b c d g o cp _ (ht.below ((Below.refl _ _).alloc (Nat.le_refl _) _) (Nat.le_refl _)) (At.below (l := [a, b, c, d]) hc ((Below.refl _ _).alloc (Nat.le_refl _) _) (At.lt (l := [a, b, c, d]) hc (by simp)))
  clear hc ht
  show Calls Tryz.prog 428 #[_, .slice (some ⟨g, o, none⟩) 4 cp] w _
  go_enter Tryz.func428, Tryz.ntmps428
  go_wp2_with (go_at_call 200; (with_reducible refine (HP.out _).mono ?_); rintro e w2 ⟨s, rfl, hb⟩)
  go_ret2
  exact ⟨s, rfl, below_under hb⟩

set_option maxRecDepth 100000 in
set_option maxHeartbeats 4000000 in
theorem says6 (l : List UInt8) (hl : l.length = 16) (hm : mapped l = false) : SaysT (.agg #[.func (.func 206) #[] #[], .func (.func 207) #[] #[], .nilFunc]) ⟨l.toArray⟩ := by
  intro w g o cp hcp ht hc
  have hsz : (⟨l.toArray⟩ : ByteArray).size = 16 := by show l.toArray.size = 16; rw [List.size_toArray]; exact hl
  rw [hsz] at hcp ⊢
  have HP : Hid (∀ ob, Calls Tryz.prog 207 #[.slice (some ⟨g, o, none⟩) 16 cp] (w.alloc ob) fun e w' => ∃ s, e = .returned (.tuple #[.string s, .nilIface]) ∧ Below (w.alloc ob).heap.size (w.alloc ob) w') :=
    Lib.hid fun ob => ip6BtS l hl hm g o cp hcp _ (At.below (l := l) hc ((Below.refl _ _).alloc (Nat.le_refl _) _) (At.lt (l := l) hc (by omega)))
  clear hc ht hsz hm
  go_enter Tryz.func428, Tryz.ntmps428
  go_wp2_with (go_at_call 207; (with_reducible refine (HP.out _).mono ?_); rintro e w2 ⟨s, rfl, hb⟩)
  go_ret2
  exact ⟨s, rfl, below_under hb⟩
set_option maxRecDepth 100000 in
set_option maxHeartbeats 4000000 in
theorem twStB206 (s : ByteArray) (l : List UInt8) (h : Reads 206 s l) (w : World) :
    Calls Tryz.prog 429 #[.agg #[.func (.func 206) #[] #[], .func (.func 207) #[] #[], .nilFunc], .string s] w fun e w' => ∃ v, e = .returned (.tuple #[v, .nilIface]) ∧ NewB w.heap.size w' v l ∧ Below w.heap.size w w' := by
  have HP := Lib.hid h; clear h
  go_enter Tryz.func429, Tryz.ntmps429
  go_wp2_with (go_at_call 206; refine (HP.out _).mono ?_; rintro e w2 ⟨v, rfl, ⟨g, o, cp, rfl, h2, h3, h4⟩, hb⟩)
  go_ret2
  exact ⟨_, rfl, ⟨g, o, cp, rfl, by simp at h2; omega, h3, h4⟩, below_under hb⟩

theorem le_grown (w : World) (n : Nat) : n ≤ grownCap w n 0 5 := grownCap_ge _ _ _ _

set_option maxRecDepth 100000 in
set_option maxHeartbeats 4000000 in
theorem valueAndErrT (q pp : Nat) (T V : ByteArray) (k : Nat) (pl : Value) (w : World) (h0 : VS w q pp T k (.iface 177 pl) w) (hk : k ≤ T.size) (hx : T.extract k T.size = V) (_hT : T.size ≤ 1000000) (hs : SaysT pl V) (ht : Tab w) :
    Calls Tryz.prog 152 #[.pointer (some ⟨q, 0, none⟩)] w fun e w' => ∃ s, e = .returned (.tuple #[.string s, .nilIface]) ∧ Below w.heap.size w w' := by
  have h00 := h0
  obtain ⟨c0, c1, c2, c3, _⟩ := h00
  have HS := Lib.hid hs; clear hs
  have hM := method_bts pl
  have hNA := nil_ahead_bts pl
  have hcv := conv_string
  have k1 : (k : Int) ≤ (T.size : Int) := by omega
  have HW : ∀ w', Below w.heap.size w w' → Hid (Calls Tryz.prog 428 #[pl, .slice (some ⟨w'.heap.size, 0, none⟩) V.size (grownCap w' V.size 0 5)] (Lib.bytesWorld w' 5 V) fun e w'' => ∃ s, e = .returned (.tuple #[.string s, .nilIface]) ∧ Below w.heap.size w w'') :=
    fun w' hb => Lib.hid ((HS.out _ _ 0 _ (le_grown _ _) (ht.below (hb.trans ((Lib.bytesWorld_below _ _ _).mono hb.size)) (Nat.le_refl _)) (bytesWorld_at w' V)).mono (by
      rintro e w'' ⟨s, rfl, hb2⟩
      refine ⟨s, rfl, (hb.trans ((Lib.bytesWorld_below _ _ _).mono hb.size)).trans (hb2.mono ?_)⟩
      rw [Lib.bytesWorld_size]; have := hb.size; omega))
  have HWd : Hid (Calls Tryz.prog 428 #[pl, .slice (some ⟨w.heap.size, 0, none⟩) V.size (grownCap w.drew V.size 0 5)] (Lib.bytesWorld w.drew 5 V) fun e w'' => ∃ s, e = .returned (.tuple #[.string s, .nilIface]) ∧ Below w.heap.size w w'') := HW w.drew ((Below.refl _ _).drew)
  clear HW HS ht
  go_enter Tryz.func152, Tryz.ntmps152
  go_wp2
  go_region_held (fun w' => VS w q pp T k (.iface 177 pl) w')
    (first
      | exact VS.of h0 ((Below.refl _ _).drew)
      | exact VS.of h0 hb2
      | exact VS.of h0 ((‹VS w q pp T k _ _›).2.2.2.2.trans ((Lib.bytesWorld_below _ _ _).mono (‹VS w q pp T k _ _›).2.2.2.2.size)))
    ((go_at_call 428; (with_reducible refine HWd.out.mono ?_); rintro e w2 ⟨s, rfl, hb2⟩))
  all_goals
    go_wp2
    go_ret2
    exact ⟨s, rfl, hb2⟩

set_option maxRecDepth 100000 in
set_option maxHeartbeats 4000000 in
theorem validate_fixT (q pp g n m : Nat) (T U V : ByteArray) (pl : Value) (w : World) (h0 : CS w q pp g n T n ((m : Int) * 8) (.iface 177 pl) w) (hU : At w g 0 U.data.toList) (hn : U.size = n) (hn1 : 1 ≤ n) (hm : 1 ≤ m) (hV : V.size = m)
    (hT : T.size = n + m) (hlim : n + m ≤ 1000000) (hxU : T.extract 0 n = U) (hxV : T.extract n T.size = V) (hs : SaysT pl V) (ht : Tab w) (hp : Passes pl V) :
    Calls Tryz.prog 75 #[.pointer (some ⟨q, 0, none⟩)] w fun e w' => e = .returned .nilIface ∧ Below w.heap.size w w' := by
  have h00 := h0
  obtain ⟨c0, c1, c2, c3, c4, c5, _⟩ := h00
  have HVE : Hid (∀ w', Below w.heap.size w w' → Calls Tryz.prog 152 #[.pointer (some ⟨q, 0, none⟩)] w' fun e w'' => ∃ s, e = .returned (.tuple #[.string s, .nilIface]) ∧ Below w.heap.size w w'') := Lib.hid fun w' hb => by
    obtain ⟨d0, d1, d2, d3, d4, d5, _⟩ := CS.of h0 hb
    refine (valueAndErrT q pp T V n pl w' ⟨d0, d1, d2, d5, Below.refl _ _⟩ (by omega) hxV (by omega) hs (ht.below hb (Nat.le_refl _))).mono ?_
    rintro e w'' ⟨s, rfl, hb2⟩
    exact ⟨s, rfl, hb.trans (hb2.mono hb.size)⟩
  have HP := Lib.hid hp; clear hp hs ht
  have hxV2 : T.extract n (n + m) = V := by rw [← hT]; exact hxV
  have hg : g < w.heap.size := hU.lt (by rw [Array.length_toList]; show 0 < U.size; omega)
  have hcv := conv_string
  have hM := method_val pl
  have k1 : (n : Int) ≤ (T.size : Int) := by omega
  have k2 : decide ((T.size : Int) < (n : Int)) = false := by simp; omega
  have k3 : ((n : Int) == 0) = false := by simp; omega
  have k4 : decide ((m : Int) * 8 < 0) = false := by simp; omega
  have k5 : ((m : Int) * 8).tdiv 8 = (m : Int) := Int.mul_tdiv_cancel _ (by decide)
  have k7 : IntKind.i64.wrap ((n : Int) + (m : Int)) = (n : Int) + (m : Int) := IntWalk.i64_in _ (by omega)
  have k6 : IntKind.i64.wrap (m : Int) = m := IntWalk.i64_in _ (by omega)
  have HE : Hid (∀ w', Below w.heap.size w w' → Calls Tryz.prog 151 #[.slice (some ⟨w'.heap.size, 0, none⟩) n (grownCap w' n 0 5), .slice (some ⟨g, 0, none⟩) n n] (Lib.bytesWorld w' 5 U) fun e w'' => e = .returned (.bool true) ∧ w'' = Lib.bytesWorld w' 5 U) := Lib.hid fun w' hb => by
    have := equalAt (bytesWorld_at w' U) ((hU.below hb hg).below (Lib.bytesWorld_below _ _ _) (Nat.lt_of_lt_of_le hg hb.size)) (grownCap w' n 0 5) n
    rw [Array.length_toList, show U.data.size = n from hn] at this
    exact this
  clear hU
  go_enter Tryz.func75, Tryz.ntmps75
  go_wp2
  go_quiet (fail)
  go_wp2
  go_quiet (fail)
  go_wp2
  generalize hw9 : World.drewN (World.drewN w _) _ = w9
  have hb9 : Below w.heap.size w w9 := by rw [← hw9]; exact below_drewN (below_drewN (Below.refl _ _) _) _
  have h9 := CS.of h0 hb9
  have h09 := h9
  obtain ⟨d0, d1, d2, d3, d4, d5, _⟩ := h9
  have HE9 : Hid (Calls Tryz.prog 151 #[.slice (some ⟨w9.heap.size, 0, none⟩) n (grownCap w9.drew n 0 5), .slice (some ⟨g, 0, none⟩) n n] (Lib.bytesWorld w9.drew 5 U) fun e w'' => e = .returned (.bool true) ∧ w'' = Lib.bytesWorld w9.drew 5 U) := Lib.hid (HE.out w9.drew hb9.drew)
  clear c0 c1 c2 c3 c4 c5 HE hw9
  go_region_held (fun w' => CS w q pp g n T n ((m : Int) * 8) (.iface 177 pl) w')
    (first
      | with_reducible assumption
      | exact CS.of h0 hb9.drew
      | exact CS.of h0 ((‹CS w q pp g n T n _ _ _›).2.2.2.2.2.2.trans ((Lib.bytesWorld_below _ _ _).mono (‹CS w q pp g n T n _ _ _›).2.2.2.2.2.2.size)))
    ((go_at_call 151; (with_reducible refine HE9.out.mono ?_); rintro e w2 ⟨rfl, rfl⟩))
  all_goals
    have hb2 : Below w.heap.size w (Lib.bytesWorld w9.drew 5 U) := hb9.drew.trans ((Lib.bytesWorld_below _ _ _).mono hb9.size)
    clear HE9 d0 d1 d2 d3 d4 d5
    generalize Lib.bytesWorld w9.drew 5 U = w2 at *
    obtain ⟨d0, d1, d2, d3, d4, d5, _⟩ := CS.of h0 hb2
    go_wp2
    go_quiet (fail)
    go_wp2
    go_quiet (fail)
    go_wp2_with (go_at_call 152; (with_reducible refine (HVE.out _ (by first | exact below_drewN hb2 _ | exact below_drewN (below_drewN hb2 _) _)).mono ?_); rintro e w3 ⟨s, rfl, hb3⟩; obtain ⟨f0, f1, f2, f3, f4, f5, _⟩ := CS.of h0 hb3)
    have HP3 : Hid (Calls Tryz.prog 430 #[pl, .slice (some ⟨w3.heap.size, 0, none⟩) m (grownCap w3.drew m 0 5)] (Lib.bytesWorld w3.drew 5 V) fun e w'' => e = .returned .nilIface ∧ Below w.heap.size w w'') := Lib.hid (by
      have := HP.out _ _ 0 (grownCap w3.drew m 0 5) (bytesWorld_at w3.drew V)
      rw [hV] at this
      refine this.mono ?_
      rintro e w4 ⟨rfl, hb4⟩
      exact ⟨rfl, (hb3.drew.trans ((Lib.bytesWorld_below _ _ _).mono hb3.size)).trans (hb4.mono (by rw [Lib.bytesWorld_size]; have := hb3.size; show _ ≤ w3.heap.size + 1; omega))⟩)
    clear HVE HP d0 d1 d2 d3 d4 d5
    go_region_held (fun w' => CS w q pp g n T n ((m : Int) * 8) (.iface 177 pl) w')
      (first
        | with_reducible assumption
        | exact CS.of h0 hb3.drew
        | exact CS.of h0 hb5
        | exact CS.of h0 ((‹CS w q pp g n T n _ _ _›).2.2.2.2.2.2.trans ((Lib.bytesWorld_below _ _ _).mono (‹CS w q pp g n T n _ _ _›).2.2.2.2.2.2.size)))
      ((go_at_call 430; (with_reducible refine HP3.out.mono ?_); rintro e w5 ⟨rfl, hb5⟩))
    all_goals
      go_wp2
      go_ret
      exact ⟨rfl, hb5⟩

/-- What is known of a component whose value has a fixed length: its code is read, its transcoder lets the value pass and speaks. -/
structure FixedT (c : Int) (l : List UInt8) : Prop where
  known : known c = true
  size : psz c = (l.length : Int) * 8
  pos : 1 ≤ l.length
  code : ReadsCode c.toNat
  path : ppath c = false
  tc : ∃ pl, tcv c = .iface 177 pl ∧ SaysT pl ⟨l.toArray⟩ ∧ Passes pl ⟨l.toArray⟩

theorem validate_newT {c : Int} {l : List UInt8} (h : FixedT c l) (hlim : (compBytes c l).length ≤ 1000000) {B : Nat} (w3 : World) (ht : Tab w3) (pp : Nat) (hp : ProtoAt B w3 pp c) :
    Calls Tryz.prog 75 #[.pointer (some ⟨w3.heap.size, 0, none⟩)] (w3.alloc (.cells #[.string ⟨(compBytes c l).toArray⟩, .pointer (some ⟨pp, 0, none⟩), .int .i64 (Lib.uvarint c.toNat).length] 50)) fun e w' =>
      e = .returned .nilIface ∧ Below (w3.heap.size + 1) (w3.alloc (.cells #[.string ⟨(compBytes c l).toArray⟩, .pointer (some ⟨pp, 0, none⟩), .int .i64 (Lib.uvarint c.toNat).length] 50)) w' := by
  obtain ⟨hk, hsz, hm, hrc, hpath, pl, htc, hsay, hpass⟩ := h
  have hcb : compBytes c l = Lib.uvarint c.toNat ++ l := by rw [compBytes, if_neg (by omega), List.append_nil]
  obtain ⟨hp1, hp2, vc, ⟨g, hg1, hg2, rfl, hg4⟩, p0, p1, p2, p3, p4, p5⟩ := hp
  have hup := Lib.uvarint_pos c.toNat
  have hlt : ∀ o j, (w3.alloc o).cell? ⟨pp, j, none⟩ = w3.cell? ⟨pp, j, none⟩ := fun o j => World.cell?_alloc_past _ _ _ hp2
  have h0 : CS (w3.alloc (.cells #[.string ⟨(compBytes c l).toArray⟩, .pointer (some ⟨pp, 0, none⟩), .int .i64 (Lib.uvarint c.toNat).length] 50)) w3.heap.size pp g (Lib.uvarint c.toNat).length ⟨(compBytes c l).toArray⟩ (Lib.uvarint c.toNat).length ((l.length : Int) * 8) (.iface 177 pl)
      (w3.alloc (.cells #[.string ⟨(compBytes c l).toArray⟩, .pointer (some ⟨pp, 0, none⟩), .int .i64 (Lib.uvarint c.toNat).length] 50)) := by
    refine ⟨by simp [go_sem], by simp [go_sem], by simp [go_sem], (hlt _ 2).trans p2, (hlt _ 3).trans (by rw [p3, hsz]), (hlt _ 5).trans (by rw [p5, htc]), Below.refl _ _⟩
  have hU : At (w3.alloc (.cells #[.string ⟨(compBytes c l).toArray⟩, .pointer (some ⟨pp, 0, none⟩), .int .i64 (Lib.uvarint c.toNat).length] 50)) g 0 (⟨(Lib.uvarint c.toNat).toArray⟩ : ByteArray).data.toList := fun j hj => by
    rw [Nat.zero_add, World.cell?_alloc_past _ _ _ hg2]
    exact hg4 j hj
  have hTs : (⟨(compBytes c l).toArray⟩ : ByteArray).size = (Lib.uvarint c.toNat).length + l.length := by
    show (compBytes c l).toArray.size = _
    rw [List.size_toArray, hcb, List.length_append]
  have hxt : ∀ a b, (⟨(compBytes c l).toArray⟩ : ByteArray).extract a b = ⟨(((compBytes c l).drop a).take (b - a)).toArray⟩ := fun a b => by
    refine ByteArray.ext (Array.toList_inj.1 ?_)
    rw [ByteArray.data_extract, Array.toList_extract, List.extract_eq_take_drop]
  refine (validate_fixT w3.heap.size pp g (Lib.uvarint c.toNat).length l.length ⟨(compBytes c l).toArray⟩ ⟨(Lib.uvarint c.toNat).toArray⟩ ⟨l.toArray⟩ pl _ h0 hU (by show (Lib.uvarint c.toNat).toArray.size = _; simp) hup hm (by show l.toArray.size = _; simp) hTs
    (by rw [hcb, List.length_append] at hlim; exact hlim) ?_ ?_ hsay (ht.below ((Below.refl _ _).alloc (Nat.le_refl _) _) (Nat.le_refl _)) hpass).mono ?_
  · rw [hxt, hcb]; simp
  · rw [hxt, hTs, hcb]; simp
  · rintro e w' ⟨rfl, hb⟩
    exact ⟨rfl, by simpa using hb⟩

end Go.Proofs.YtnpcmmjdojdmnaaGreatDoor
namespace Go.Proofs.YtnpcmmjdojdmnaaGreatDoor
open Go Go.RowKit Go.Sort

/-- A component in memory, and where its value begins. -/
def CompAtK (B : Nat) (w : World) (q : Nat) (c : Int) (l : List UInt8) : Prop :=
  B ≤ q ∧ q < w.heap.size ∧ ∃ pp, w.cell? ⟨q, 0, none⟩ = some (.string ⟨(compBytes c l).toArray⟩) ∧ w.cell? ⟨q, 1, none⟩ = some (.pointer (some ⟨pp, 0, none⟩)) ∧ w.cell? ⟨q, 2, none⟩ = some (.int .i64 (Lib.uvarint c.toNat).length) ∧ ProtoAt B w pp c

set_option maxRecDepth 100000 in
set_option maxHeartbeats 8000000 in
theorem newComponent {c : Int} {l : List UInt8} (hF : FixedT c l) (hlim : (compBytes c l).length ≤ 1000) (B : Nat) (vc : Value) (g o cp : Nat) (w : World) (ht : Tab w) (hv : Fresh B w vc (Lib.uvarint c.toNat)) (hb : At w g o l) :
    Calls Tryz.prog 159 #[.agg #[.string (pname c), .int .i64 c, vc, .int .i64 (psz c), .bool (ppath c), tcv c], .slice (some ⟨g, o, none⟩) l.length cp] w fun e w' =>
      ∃ q, e = .returned (.tuple #[.pointer (some ⟨q, 0, none⟩), .nilIface]) ∧ CompAtK w.heap.size w' q c l ∧ Below w.heap.size w w' := by
  obtain ⟨i0, hi, hz0, hz1, hz2⟩ := info_parts info5
  have HF := Lib.hid hF
  obtain ⟨hk, hsz, hm, hrc, hpath, pl, htc, hsay, hpass⟩ := hF
  have hcb : compBytes c l = Lib.uvarint c.toNat ++ l := by rw [compBytes, if_neg (by omega), List.append_nil]
  obtain ⟨gv, hg1, hg2, rfl, hg4⟩ := hv
  have hup := Lib.uvarint_pos c.toNat
  have hlen : (Lib.uvarint c.toNat).length + l.length ≤ 1000 := by rw [hcb, List.length_append] at hlim; exact hlim
  have hgl : g < w.heap.size := hb.lt (by omega)
  have HU : Hid (At w gv 0 (Lib.uvarint c.toNat)) := Lib.hid fun j hj => by rw [Nat.zero_add]; exact hg4 j hj
  have HPt := Lib.hid (fun wx => zzPtr c hk wx)
  have HB := Lib.hid hb
  have HCB := Lib.hid (And.intro hcb (And.intro hup hm))
  have HLIM : Hid ((compBytes c l).length ≤ 1000000) := Lib.hid (by omega)
  rw [hsz]
  generalize hU : Lib.uvarint c.toNat = U at *
  obtain ⟨n, hn⟩ : ∃ n, n = U.length := ⟨_, rfl⟩
  obtain ⟨m, hm'⟩ : ∃ m, m = l.length := ⟨_, rfl⟩
  rw [← hn, ← hm']
  obtain ⟨s, hs⟩ : ∃ s, s = m + n := ⟨_, rfl⟩
  have k4 : decide ((m : Int) * 8 < 0) = false := by simp; omega
  have q1 : IntKind.i64.wrap ((m : Int) + (n : Int)) = (s : Int) := by rw [IntWalk.i64_in _ (by omega)]; omega
  have HN := Lib.hid (And.intro hn (And.intro hm' (And.intro hs hU)))
  clear hb hg4 hcb hlim hsay hpass hrc hpath htc hsz hup hm hk hn hm' hs hU
  go_enter Tryz.func159, Tryz.ntmps159
  go_wp2_with (go_at_call 71; (with_reducible refine (HPt.out _).mono ?_); rintro e w2 ⟨pp, rfl, hpa, hb2⟩; refine Hid.out ?_)
  refine Lib.hid ?_
  have b2 : w2.cell? ⟨w.heap.size, 2, none⟩ = some (.slice (some ⟨gv, 0, none⟩) n n) := (hb2.cell (p := ⟨w.heap.size, 2, none⟩) (by simp)).trans (by simp [go_sem])
  have b3 : w2.cell? ⟨w.heap.size, 3, none⟩ = some (.int .i64 ((m : Int) * 8)) := (hb2.cell (p := ⟨w.heap.size, 3, none⟩) (by simp)).trans (by simp [go_sem])
  have hbw : Below w.heap.size w w2 := ((Below.refl _ _).alloc (Nat.le_refl _) _).trans (hb2.mono (by simp))
  have hsz2 : w.heap.size + 1 ≤ w2.heap.size := by have := hb2.size; simpa using this
  have HBW := Lib.hid hbw
  have HPA := Lib.hid hpa
  clear hb2 hpa hbw
  go_wp2_with (at_make; refine wpList_make_full _ rfl (.tmp 33) (.tmp 33) 22 rfl w2.heap.size 5 i0 (.int .u8 0) 1 Tryz.underlying22 hi hz0 hz1 .i64 .i64 _ _ s rfl rfl rfl rfl ?c1 ?c2 (Nat.le_refl _) ?_)
  case c1 => rw [hz2]; have := HN.out; omega
  case c2 => unfold maxLen; have := HN.out; omega
  intro w3 hown hgrow
  have hbw3 : Below w.heap.size w w3 := HBW.out.trans ⟨hgrow.os, hgrow.tape, hgrow.output, hgrow.size, fun k hk => hgrow.block k (by have := HBW.out.size; omega) (by simp)⟩
  have hlt3 : w2.heap.size < w3.heap.size := (hown.lt w2.heap.size rfl).2
  have hc3 : ∀ j, j < s → w3.cell? ⟨w2.heap.size, j, none⟩ = some (.int .u8 0) := fun j hj => by
    have := hown.cellAt j (by simp; omega)
    rw [this]
    simp [madeCells]
    exact ⟨j, by rw [List.getElem?_range (by omega)], by simp [Nat.mod_one]⟩
  have hf3 : ∀ j, w3.frozen? ⟨w2.heap.size, j, none⟩ = false := fun j => hown.frozenAt j
  have b2' : w3.cell? ⟨w.heap.size, 2, none⟩ = some (.slice (some ⟨gv, 0, none⟩) n n) := by rw [← b2]; exact World.cell?_of_block (hgrow.block _ (by show w.heap.size < _; omega) (by simp))
  have b3' : w3.cell? ⟨w.heap.size, 3, none⟩ = some (.int .i64 ((m : Int) * 8)) := by rw [← b3]; exact World.cell?_of_block (hgrow.block _ (by show w.heap.size < _; omega) (by simp))
  have HPA2 : Hid (ProtoAt (w.heap.size + 1) w2 pp c) := Lib.hid (by simpa using HPA.out)
  have hb23 : Below w2.heap.size w2 w3 := ⟨hgrow.os, hgrow.tape, hgrow.output, hgrow.size, fun k hk => hgrow.block k hk (by simp)⟩
  clear hown hgrow b2 b3 HPA HBW
  have hcpy : (Builtin.copy_ #[22, 22] 3 #[.slice (some ⟨w2.heap.size, 0, none⟩) s s, .slice (some ⟨gv, 0, none⟩) n n]).run Tryz.prog w3.drew = .ok (.int .i64 n) (w3.drew.setCells w2.heap.size 0 (Lib.byteCells U)) := by
    obtain ⟨hn, hm', hs, hU⟩ := HN.out
    have hl : (Lib.byteCells U).length = n := by simp [Lib.byteCells, hn]
    have := run_copy_cells (P := Tryz.prog) w3.drew 22 22 3 5 w2.heap.size 0 s s ⟨gv, 0, none⟩ n n (Lib.byteCells U) Tryz.underlying22 (by kernel_rfl) (by rw [hl]; show n = min n s; omega)
      (fun j v hv => by
        have hj : j < U.length := by
          have := (List.getElem?_eq_some_iff.1 hv).1
          rw [hl] at this; omega
        have h1 := (HU.out.below hbw3 hg2) j hj
        have h2 : v = .int .u8 U[j].toNat := by simp [Lib.byteCells, hj] at hv; exact hv.symm
        rw [h2, Addr.add_lit]
        exact h1)
      (fun j hj => by rw [Nat.zero_add]; show (w3.cell? _).isSome = true; rw [hc3 j (by omega)]; rfl)
      (fun j hj => hf3 _) (by simp [Lib.byteCells, Value.oneCell'])
    rw [hl] at this
    exact this
  have hw64 : wrap64 (n : Int) = (n : Int) := by unfold wrap64; have := HN.out; omega
  go_wp2
  go_region
  have bA : Below w.heap.size w (w3.drew.setCells w2.heap.size 0 (Lib.byteCells U)) := hbw3.drew.trans (Lib.below_setCells_w (by omega) _ _ _)
  have bA2 : Below w2.heap.size w3 (w3.drew.setCells w2.heap.size 0 (Lib.byteCells U)) := ((Below.refl _ _).drew).trans (Lib.below_setCells_w (Nat.le_refl _) _ _ _)
  have hUl : (Lib.byteCells U).length = n := by rw [Lib.byteCells_length, HN.out.1]
  have cA : ∀ j (hj : j < U.length), (w3.drew.setCells w2.heap.size 0 (Lib.byteCells U)).cell? ⟨w2.heap.size, j, none⟩ = some (.int .u8 U[j].toNat) := fun j hj => by
    have := World.cell?_setCells_in w2.heap.size (Lib.byteCells U) 0 w3.drew (fun i hi => by rw [Nat.zero_add]; show (w3.cell? _).isSome = true; rw [hc3 i (by have := HN.out; omega)]; rfl) j (by rw [Lib.byteCells_length]; exact hj)
    rw [Nat.zero_add] at this
    rw [this]; simp [Lib.byteCells]
  have dA : ∀ j, n ≤ j → j < s → (w3.drew.setCells w2.heap.size 0 (Lib.byteCells U)).cell? ⟨w2.heap.size, j, none⟩ = some (.int .u8 0) := fun j h1 h2 => by
    rw [World.cell?_setCells_out w2.heap.size (Lib.byteCells U) 0 w3.drew ⟨w2.heap.size, j, none⟩ (fun _ _ => Or.inr (by rw [hUl]; show 0 + n ≤ j; omega))]
    exact hc3 j h2
  have fA : ∀ j, (w3.drew.setCells w2.heap.size 0 (Lib.byteCells U)).frozen? ⟨w2.heap.size, j, none⟩ = false := fun j => by rw [World.frozen?_setCells]; exact hf3 j
  have hszA : w2.heap.size < (w3.drew.setCells w2.heap.size 0 (Lib.byteCells U)).heap.size := Nat.lt_of_lt_of_le hlt3 bA2.size
  generalize w3.drew.setCells w2.heap.size 0 (Lib.byteCells U) = wA at *
  have b3A : wA.cell? ⟨w.heap.size, 3, none⟩ = some (.int .i64 ((m : Int) * 8)) := (bA2.cell (p := ⟨w.heap.size, 3, none⟩) (by show w.heap.size < _; omega)).trans b3'
  have hcpy2 : (Builtin.copy_ #[22, 22] 3 #[.slice (some ⟨w2.heap.size, n, none⟩) m m, .slice (some ⟨g, o, none⟩) m cp]).run Tryz.prog wA = .ok (.int .i64 m) (wA.setCells w2.heap.size n (Lib.byteCells l)) := by
    obtain ⟨hn, hm', hs, hU⟩ := HN.out
    have hl : (Lib.byteCells l).length = m := by simp [Lib.byteCells, hm']
    have := run_copy_cells (P := Tryz.prog) wA 22 22 3 5 w2.heap.size n m m ⟨g, o, none⟩ m cp (Lib.byteCells l) Tryz.underlying22 (by kernel_rfl) (by rw [hl]; show m = min m m; omega)
      (fun j v hv => by
        have hj : j < l.length := by
          have := (List.getElem?_eq_some_iff.1 hv).1
          rw [hl] at this; omega
        have h1 := (HB.out.below bA hgl) j hj
        have h2 : v = .int .u8 l[j].toNat := by simp [Lib.byteCells, hj] at hv; exact hv.symm
        rw [h2, Addr.add_lit]
        exact h1)
      (fun j hj => by rw [dA (n + j) (by omega) (by omega)]; rfl)
      (fun j hj => fA _) (by simp [Lib.byteCells, Value.oneCell'])
    rw [hl] at this
    exact this
  have hll : (Lib.byteCells l).length = m := by rw [Lib.byteCells_length, HN.out.2.1]
  have b4 : Below w.heap.size w (wA.setCells w2.heap.size n (Lib.byteCells l)) := bA.trans (Lib.below_setCells_w (by omega) _ _ _)
  have P4 : ProtoAt (w.heap.size + 1) (wA.setCells w2.heap.size n (Lib.byteCells l)) pp c := HPA2.out.below (hb23.trans (bA2.trans (Lib.below_setCells_w (Nat.le_refl _) _ _ _))) (Nat.le_refl _)
  have A4 : At (wA.setCells w2.heap.size n (Lib.byteCells l)) w2.heap.size 0 (U ++ l) := fun j hj => by
    rw [Nat.zero_add]
    by_cases hjn : j < U.length
    · rw [World.cell?_setCells_out w2.heap.size (Lib.byteCells l) n wA ⟨w2.heap.size, j, none⟩ (fun _ _ => Or.inl (by show j < n; have := HN.out; omega)), List.getElem_append_left hjn]
      exact cA j hjn
    · have hj2 : j - n < (Lib.byteCells l).length := by rw [hll]; rw [List.length_append] at hj; have := HN.out; omega
      have := World.cell?_setCells_in w2.heap.size (Lib.byteCells l) n wA (fun i hi => by rw [dA (n + i) (by omega) (by have := HN.out; omega)]; rfl) (j - n) hj2
      rw [show n + (j - n) = j by have := HN.out; omega] at this
      rw [this, List.getElem_append_right (by omega)]
      have := HN.out.1
      subst this
      simp [Lib.byteCells]
  have hconv : (convert 22 9 (.slice (some ⟨w2.heap.size, 0, none⟩) s s)).run Tryz.prog (wA.setCells w2.heap.size n (Lib.byteCells l)) = .ok (.string ⟨(compBytes c l).toArray⟩) (wA.setCells w2.heap.size n (Lib.byteCells l)) := by
    have := convert_bytes A4.bytes s
    rw [HCB.out.1]
    rw [show (U ++ l).length = s by rw [List.length_append]; have := HN.out; omega] at this
    exact this
  have hT4 : Tab (wA.setCells w2.heap.size n (Lib.byteCells l)) := ht.below b4 (Nat.le_refl _)
  have HV := Lib.hid (validate_newT HF.out HLIM.out (wA.setCells w2.heap.size n (Lib.byteCells l)) hT4 pp P4)
  rw [show Lib.uvarint c.toNat = U from HN.out.2.2.2, ← HN.out.1] at HV
  have q2 : IntKind.i64.wrap ((n : Int) + (m : Int)) = (s : Int) := by have := HN.out; rw [IntWalk.i64_in _ (by omega)]; omega
  have hsn : s - n = m := by have := HN.out; omega
  have hns : (n : Int) ≤ (s : Int) := by have := HN.out; omega
  have hns2 : ¬ s = n := by have := HN.out; have := HCB.out; omega
  have hns3 : ¬ n = s := fun h => hns2 h.symm
  have B4 := Lib.hid b4
  have PP4 := Lib.hid P4
  clear cA dA fA hcpy hc3 hf3 A4 hUl hll b2' b3' b4 P4 bA bA2 hb23 hT4 hbw3
  simp only [hw64]
  go_wp2_with (go_at_call 75; (with_reducible refine HV.out.mono ?_); rintro e w5 ⟨rfl, hb5⟩)
  go_ret2
  generalize wA.setCells w2.heap.size n (Lib.byteCells l) = w4 at *
  have hs4 : w.heap.size + 1 ≤ w4.heap.size := by have := PP4.out.1; have := PP4.out.2.1; omega
  have c45 : ∀ j, w5.cell? ⟨w4.heap.size, j, none⟩ = (w4.alloc (.cells #[.string ⟨(compBytes c l).toArray⟩, .pointer (some ⟨pp, 0, none⟩), .int .i64 n] 50)).cell? ⟨w4.heap.size, j, none⟩ := fun j => hb5.cell (p := ⟨w4.heap.size, j, none⟩) (by simp)
  have hw45 : Below w4.heap.size w4 w5 := ((Below.refl _ _).alloc (Nat.le_refl _) _).trans (hb5.mono (by omega))
  refine ⟨_, rfl, ⟨by omega, Nat.lt_of_lt_of_le (by simp) hb5.size, pp, ?_, ?_, ?_, ?_⟩, B4.out.trans (hw45.mono (by omega))⟩
  · rw [c45]; simp [go_sem]
  · rw [c45]; simp [go_sem]
  · rw [c45, HN.out.2.2.2, ← HN.out.1]; simp [go_sem]
  · exact (PP4.out.below hw45 (Nat.le_refl _)).mono (by omega)

set_option maxRecDepth 100000 in
set_option maxHeartbeats 8000000 in
theorem newComp {c : Int} {l : List UInt8} (hF : FixedT c l) (hlim : (compBytes c l).length ≤ 1000) (pl : Value) (htc : tcv c = .iface 177 pl) (s : ByteArray)
    (hR : ∀ w, Calls Tryz.prog 429 #[pl, .string s] w fun e w' => ∃ v, e = .returned (.tuple #[v, .nilIface]) ∧ NewB w.heap.size w' v l ∧ Below w.heap.size w w') (w : World) (ht : Tab w) :
    Calls Tryz.prog 98 #[.string (pname c), .string s] w fun e w' => ∃ q, e = .returned (.tuple #[.pointer (some ⟨q, 0, none⟩), .nilIface]) ∧ CompAtK w.heap.size w' q c l ∧ Below w.heap.size w w' := by
  have hne := known_ne hF.known
  have HPN := Lib.hid (fun wx => protocolWithName c hF.known wx)
  have HF := Lib.hid (And.intro hF hlim)
  have HR := Lib.hid hR
  have hM := method_stb pl
  have hNA := nil_ahead_twrp pl
  rw [htc] at HPN
  have HTC := Lib.hid htc
  clear hF hlim hR htc
  go_enter Tryz.func98, Tryz.ntmps98
  go_wp2_with (first
    | (go_at_call 105; (with_reducible refine (HPN.out _).mono ?_); rintro e w2 ⟨vc, rfl, ⟨gv, hv1, hv2, rfl, hv4⟩, hb2⟩)
    | (go_at_call 429; (with_reducible refine (HR.out _).mono ?_); rintro e w3 ⟨v, rfl, ⟨g, o, cp, rfl, hn2, hn3, hn4⟩, hb3⟩; refine Hid.out ?_))
  refine Lib.hid ?_
  have c0 : ∀ j, w3.cell? ⟨w2.heap.size, j, none⟩ = (w2.alloc (.cells #[.string (pname c), .int .i64 c, .slice (some ⟨gv, 0, none⟩) (Lib.uvarint c.toNat).length (Lib.uvarint c.toNat).length, .int .i64 (psz c), .bool (ppath c), .iface 177 pl] 83)).cell? ⟨w2.heap.size, j, none⟩ := fun j => hb3.cell (p := ⟨w2.heap.size, j, none⟩) (by simp)
  have d0 : w3.cell? ⟨w2.heap.size, 0, none⟩ = some (.string (pname c)) := (c0 0).trans (by simp [go_sem])
  have d1 : w3.cell? ⟨w2.heap.size, 1, none⟩ = some (.int .i64 c) := (c0 1).trans (by simp [go_sem])
  have d2 : w3.cell? ⟨w2.heap.size, 2, none⟩ = some (.slice (some ⟨gv, 0, none⟩) (Lib.uvarint c.toNat).length (Lib.uvarint c.toNat).length) := (c0 2).trans (by simp [go_sem])
  have d3 : w3.cell? ⟨w2.heap.size, 3, none⟩ = some (.int .i64 (psz c)) := (c0 3).trans (by simp [go_sem])
  have d4 : w3.cell? ⟨w2.heap.size, 4, none⟩ = some (.bool (ppath c)) := (c0 4).trans (by simp [go_sem])
  have d5 : w3.cell? ⟨w2.heap.size, 5, none⟩ = some (.iface 177 pl) := (c0 5).trans (by simp [go_sem])
  have hb23 : Below w2.heap.size w2 w3 := ((Below.refl _ _).alloc (Nat.le_refl _) _).trans (hb3.mono (by simp))
  have hbw : Below w.heap.size w w3 := hb2.trans (hb23.mono hb2.size)
  have HNC : Hid (Calls Tryz.prog 159 #[.agg #[.string (pname c), .int .i64 c, .slice (some ⟨gv, 0, none⟩) (Lib.uvarint c.toNat).length (Lib.uvarint c.toNat).length, .int .i64 (psz c), .bool (ppath c), .iface 177 pl], .slice (some ⟨g, o, none⟩) l.length cp] w3 fun e w' =>
      ∃ q, e = .returned (.tuple #[.pointer (some ⟨q, 0, none⟩), .nilIface]) ∧ CompAtK w3.heap.size w' q c l ∧ Below w3.heap.size w3 w') := Lib.hid (by
    have h1 : Fresh 0 w3 (.slice (some ⟨gv, 0, none⟩) (Lib.uvarint c.toNat).length (Lib.uvarint c.toNat).length) (Lib.uvarint c.toNat) :=
      ⟨gv, Nat.zero_le _, Nat.lt_of_lt_of_le hv2 hb23.size, rfl, fun j hj => (hb23.cell (p := ⟨gv, j, none⟩) hv2).trans (hv4 j hj)⟩
    have := newComponent HF.out.1 HF.out.2 0 _ g o cp w3 (ht.below hbw (Nat.le_refl _)) h1 hn4
    rw [HTC.out] at this
    exact this)
  clear c0 hn4 hv4 hb3
  go_wp2_with (go_at_call 159; (with_reducible refine HNC.out.mono ?_); rintro e w5 ⟨q, rfl, hq, hb5⟩)
  go_ret2
  have hsz := hbw.size
  obtain ⟨q1, q2, pp, e0, e1, e2, e3⟩ := hq
  exact ⟨q, rfl, ⟨by omega, q2, pp, e0, e1, e2, e3.mono hsz⟩, hbw.trans (hb5.mono hsz)⟩
end Go.Proofs.YtnpcmmjdojdmnaaGreatDoor
namespace Go.Proofs.YtnpcmmjdojdmnaaGreatDoor
open Go Go.RowKit Go.Sort

set_option maxRecDepth 100000 in
set_option maxHeartbeats 4000000 in
theorem compCode (q o pp : Nat) (c : Int) (w : World) (h1 : w.cell? ⟨q, o + 1, none⟩ = some (.pointer (some ⟨pp, 0, none⟩))) (h2 : w.cell? ⟨pp, 1, none⟩ = some (.int .i64 c)) :
    Calls Tryz.prog 56 #[.pointer (some ⟨q, o, none⟩)] w fun e w' => e = .returned (.int .i64 c) ∧ w = w' := by
  go_enter Tryz.func56, Tryz.ntmps56
  go_wp2
  go_ret
  exact ⟨rfl, rfl⟩

set_option maxRecDepth 100000 in
set_option maxHeartbeats 4000000 in
theorem compRaw (q o k : Nat) (T V : ByteArray) (w : World) (h0 : w.cell? ⟨q, o, none⟩ = some (.string T)) (h2 : w.cell? ⟨q, o + 2, none⟩ = some (.int .i64 k)) (hk : k ≤ T.size) (hx : T.extract k T.size = V) :
    Calls Tryz.prog 57 #[.pointer (some ⟨q, o, none⟩)] w fun e w' => ∃ cp, e = .returned (.slice (some ⟨w.heap.size, 0, none⟩) V.size cp) ∧ At w' w.heap.size 0 V.data.toList ∧ w.heap.size < w'.heap.size ∧ V.size ≤ cp ∧ Below w.heap.size w w' := by
  have hcv := conv_string
  have k1 : (k : Int) ≤ (T.size : Int) := by omega
  go_enter Tryz.func57, Tryz.ntmps57
  go_wp2
  go_region
  go_wp2
  go_ret
  exact ⟨_, rfl, bytesWorld_at w.drew V, by rw [Lib.bytesWorld_size]; exact Nat.lt_succ_self _, le_grown _ _, ((Below.refl _ _).drew).trans ((Lib.bytesWorld_below w.drew 5 V).mono (Nat.le_refl _))⟩

theorem results67 (tmps : Array Value) (w : World) (g : Nat) (cs : Array Value) (hp : tmps.getD 2 undef = .pointer (some ⟨g, 0, none⟩))
    (hg : w.heap[g]? = some (.cells cs 83 (0, 0))) (hi : (Tryz.prog.info? 83).map (·.size) = some cs.size) : (results Tryz.f67 tmps).run Tryz.prog w = .ok (.agg cs) w := by
  have hp' : tmps[2]?.getD undef = .pointer (some ⟨g, 0, none⟩) := by simpa using hp
  simp [results, Tryz.results67, hp', asAddr, run_loadVar_row w g 83 83 cs (0, 0) _ hg Tryz.underlying83 rfl hi]

set_option maxRecDepth 100000 in
set_option maxHeartbeats 4000000 in
theorem compProtocol (q o pp B : Nat) (c : Int) (w : World) (h1 : w.cell? ⟨q, o + 1, none⟩ = some (.pointer (some ⟨pp, 0, none⟩))) (h2 : ProtoAt B w pp c) :
    Calls Tryz.prog 67 #[.pointer (some ⟨q, o, none⟩)] w fun e w' => ∃ gv nv : Nat, e = .returned (.agg #[.string (pname c), .int .i64 c, .slice (some ⟨gv, 0, none⟩) nv nv, .int .i64 (psz c), .bool (ppath c), tcv c]) ∧ Below w.heap.size w w' := by
  obtain ⟨hp1, hp2, vc, ⟨g, hg1, hg2, rfl, hg4⟩, p0, p1, p2, p3, p4, p5⟩ := h2
  have hq := World.block_lt_of_cell? w _ h1
  have one : (tcv c).oneCell' = true := by rcases tcv_form c with h | ⟨x, h⟩ <;> rw [h] <;> rfl
  obtain ⟨cs, hcs⟩ : ∃ cs : List Value, cs = [.string (pname c), .int .i64 c, .slice (some ⟨g, 0, none⟩) (Lib.uvarint c.toNat).length (Lib.uvarint c.toNat).length, .int .i64 (psz c), .bool (ppath c), tcv c] := ⟨_, rfl⟩
  have HR : Hid (∀ o', (w.alloc o').rangeAt pp 0 cs) := Lib.hid fun o' j v hj => by
    rw [Nat.zero_add, World.cell?_alloc_past _ _ _ hp2]
    rw [hcs] at hj
    match j, hj with
    | 0, hj => rw [p0]; simpa using hj
    | 1, hj => rw [p1]; simpa using hj
    | 2, hj => rw [p2]; simpa using hj
    | 3, hj => rw [p3]; simpa using hj
    | 4, hj => rw [p4]; simpa using hj
    | 5, hj => rw [p5]; simpa using hj
    | n + 6, hj => simp at hj
  have HI : Hid ((Tryz.prog.info? 83).map (·.size) = some cs.length) := Lib.hid (by rw [hcs]; kernel_rfl)
  have H1 : Hid (cs.toArray.all (·.oneCell') = true) := Lib.hid (by
    rw [Array.all_eq_true_iff_forall_mem]
    intro v hv
    have hv : v ∈ cs := by simpa using hv
    rw [hcs] at hv
    simp only [List.mem_cons, List.not_mem_nil, or_false] at hv
    rcases hv with rfl | rfl | rfl | rfl | rfl | rfl
    all_goals first | rfl | exact one)
  have HCS := Lib.hid hcs
  have HL : Hid (cs.length = 6) := Lib.hid (by rw [hcs]; rfl)
  clear hcs hg4 p0 p1 p2 p3 p4 p5 one
  go_enter Tryz.func67, Tryz.ntmps67
  go_wp2_with (first
    | (refine wpList_load_mid rfl 83 (.tmp 16) rfl pp 0 rfl cs _ (HR.out _) Tryz.underlying83 rfl HI.out ?_)
    | (refine wpList_store_row rfl 83 (.tmp 2) (.tmp 17) rfl w.heap.size _ rfl rfl 83 _ (heap_alloc_last w _) (by simpa using HI.out) (by have := HL.out; simp [this]) H1.out ?_; rw [World.setRow_alloc_new]))
  refine bodyPost_ret (v := .agg cs.toArray) (results67 _ _ w.heap.size _ rfl (heap_alloc_last w _) (by simpa using HI.out)) rfl ?_
  exact ⟨⟨_, _, by rw [HCS.out]⟩, (Below.refl _ _).alloc (Nat.le_refl _) _⟩

theorem results36 (tmps : Array Value) (w : World) (g : Nat) (cs : Array Value) (hp : tmps.getD 2 undef = .pointer (some ⟨g, 0, none⟩))
    (hg : w.heap[g]? = some (.cells cs 24 (0, 0))) (hi : (Tryz.prog.info? 24).map (·.size) = some cs.size) : (results Tryz.f36 tmps).run Tryz.prog w = .ok (.agg cs) w := by
  have hp' : tmps[2]?.getD undef = .pointer (some ⟨g, 0, none⟩) := by simpa using hp
  simp [results, Tryz.results36, hp', asAddr, run_loadVar_row w g 24 24 cs (0, 0) _ hg Tryz.underlying24 rfl hi]

set_option maxRecDepth 100000 in
set_option maxHeartbeats 4000000 in
theorem compOne (q o pp k : Nat) (c : Int) (T V : ByteArray) (w : World) (h0 : w.cell? ⟨q, o, none⟩ = some (.string T)) (h1 : w.cell? ⟨q, o + 1, none⟩ = some (.pointer (some ⟨pp, 0, none⟩))) (h2 : w.cell? ⟨q, o + 2, none⟩ = some (.int .i64 k)) (h3 : w.cell? ⟨pp, 1, none⟩ = some (.int .i64 c))
    (hk : k ≤ T.size) (hx : T.extract k T.size = V) :
    Calls Tryz.prog 36 #[.pointer (some ⟨q, o, none⟩)] w fun e w' => ∃ g cp, e = .returned (.agg #[.int .i64 c, .slice (some ⟨g, 0, none⟩) V.size cp]) ∧ w.heap.size ≤ g ∧ g < w'.heap.size ∧ V.size ≤ cp ∧ At w' g 0 V.data.toList ∧ Below w.heap.size w w' := by
  have hq := World.block_lt_of_cell? w _ h0
  have hp := World.block_lt_of_cell? w _ h3
  have HC : Hid (∀ o', Calls Tryz.prog 56 #[.pointer (some ⟨q, o, none⟩)] (w.alloc o') fun e w' => e = .returned (.int .i64 c) ∧ w.alloc o' = w') := Lib.hid fun o' => compCode q o pp c _ (by rw [World.cell?_alloc_past _ _ _ hq]; exact h1) (by rw [World.cell?_alloc_past _ _ _ hp]; exact h3)
  have HR : Hid (∀ o', Calls Tryz.prog 57 #[.pointer (some ⟨q, o, none⟩)] (w.alloc o') fun e w' => ∃ cp, e = .returned (.slice (some ⟨(w.alloc o').heap.size, 0, none⟩) V.size cp) ∧ At w' (w.alloc o').heap.size 0 V.data.toList ∧ (w.alloc o').heap.size < w'.heap.size ∧ V.size ≤ cp ∧ Below (w.alloc o').heap.size (w.alloc o') w') := Lib.hid fun o' => compRaw q o k T V _ (by rw [World.cell?_alloc_past _ _ _ hq]; exact h0) (by rw [World.cell?_alloc_past _ _ _ hq]; exact h2) hk hx
  clear h0 h1 h2 h3
  go_enter Tryz.func36, Tryz.ntmps36
  go_wp2_with (first
    | (go_at_call 56; (with_reducible refine (HC.out _).mono ?_); rintro e w2 ⟨rfl, rfl⟩)
    | (go_at_call 57; (with_reducible refine (HR.out _).mono ?_); rintro e w3 ⟨cp, rfl, hat, hlt, hcp, hb⟩; refine Hid.out ?_))
  refine Lib.hid ?_
  have hsz : w.heap.size < w3.heap.size := by have := hb.size; simp at this; omega
  have HG3 := Lib.hid ((hb.block w.heap.size (by simp)).trans (heap_alloc_last w _))
  have e1 : (w.alloc (.cells #[.int .i64 0, .slice none 0 0] 24)).heap.size = w.heap.size + 1 := by simp
  rw [e1] at hat hlt
  have HAT := Lib.hid (And.intro hat (And.intro hlt hcp))
  have HBB : Hid (Below w.heap.size w w3) := Lib.hid (((Below.refl _ _).alloc (Nat.le_refl _) _).trans (hb.mono (by simp)))
  have HI : Hid ((Tryz.prog.info? 24).map (·.size) = some 2) := Lib.hid (by kernel_rfl)
  clear hat hb hlt e1
  go_wp2_with (refine wpList_store_row rfl 24 (.tmp 2) (.tmp 7) rfl w.heap.size _ rfl rfl 24 _ HG3.out HI.out rfl (by simp [Value.oneCell']) ?_)
  refine bodyPost_ret (v := .agg #[.int .i64 c, .slice (some ⟨w.heap.size + 1, 0, none⟩) V.size cp]) (results36 _ _ w.heap.size _ rfl (setRow_heap _ _ _ _ _ _ HG3.out) HI.out) rfl ?_
  obtain ⟨hat, hlt, hcp⟩ := HAT.out
  exact ⟨_, _, rfl, Nat.le_succ _, by rw [setRow_size]; exact hlt, hcp, fun j hj => (cell_setRow_other w3 _ _ _ (by simp)).trans (hat j hj), below_setRow HBB.out (Nat.le_refl _) _⟩
end Go.Proofs.YtnpcmmjdojdmnaaGreatDoor
namespace Go.Proofs.YtnpcmmjdojdmnaaGreatDoor
open Go Go.RowKit Go.Sort

set_option maxRecDepth 100000 in
set_option maxHeartbeats 4000000 in
theorem compMulti (q pp k : Nat) (T : ByteArray) (w : World) (h0 : w.cell? ⟨q, 0, none⟩ = some (.string T)) (h1 : w.cell? ⟨q, 1, none⟩ = some (.pointer (some ⟨pp, 0, none⟩))) (h2 : w.cell? ⟨q, 2, none⟩ = some (.int .i64 k)) :
    Calls Tryz.prog 100 #[.pointer (some ⟨q, 0, none⟩)] w fun e w' => e = .returned (.slice (some ⟨w.heap.size, 0, none⟩) 1 1) ∧ w' = w.alloc (.cells #[.string T, .pointer (some ⟨pp, 0, none⟩), .int .i64 k] 50) := by
  go_enter Tryz.func100, Tryz.ntmps100
  go_wp2
  go_ret
  exact ⟨rfl, rfl⟩

theorem info24 : (Tryz.prog.info? 24).map (fun i => (i.zero, i.size, i.bytes)) = some (some (.agg #[.int .i64 0, .slice none 0 0]), 2, 32) := by kernel_rfl
theorem cell_two_new (w : World) (x y : Value) (t : TypeId) : ∀ j u, [x, y][j]? = some u → (w.alloc (.cells #[x, y] t)).cell? ((⟨w.heap.size, 0, none⟩ : Addr).add j) = some u := by
  intro j u hj
  rw [Addr.add_lit, Nat.zero_add, World.cell?_alloc_new]
  simpa using hj

/-- One component of the thin package, in memory that is new. -/
structure OneC (B : Nat) (w : World) (v : Value) (c : Int) (l : List UInt8) : Prop where
  ex : ∃ b cap g cp, v = .slice (some ⟨b, 0, none⟩) 1 cap ∧ B ≤ b ∧ b < w.heap.size ∧ 1 ≤ cap ∧ w.cell? ⟨b, 0, none⟩ = some (.int .i64 c) ∧ w.cell? ⟨b, 1, none⟩ = some (.slice (some ⟨g, 0, none⟩) l.length cp) ∧
    B ≤ g ∧ g < w.heap.size ∧ l.length ≤ cp ∧ At w g 0 l
theorem OneC.below {B B' : Nat} {w w' : World} {v : Value} {c : Int} {l : List UInt8} (h : OneC B w v c l) (hb : Below B' w w') (hB : w.heap.size ≤ B') : OneC B w' v c l := by
  obtain ⟨b, cap, g, cp, h1, h2, h3, h4, h5, h6, h7, h8, h9, h10⟩ := h.ex
  exact ⟨b, cap, g, cp, h1, h2, Nat.lt_of_lt_of_le h3 hb.size, h4, (hb.cell (p := ⟨b, 0, none⟩) (by show b < B'; omega)).trans h5, (hb.cell (p := ⟨b, 1, none⟩) (by show b < B'; omega)).trans h6, h7, Nat.lt_of_lt_of_le h8 hb.size, h9, h10.below hb (by omega)⟩
theorem OneC.mono {B B' : Nat} {w : World} {v : Value} {c : Int} {l : List UInt8} (h : OneC B w v c l) (hB : B' ≤ B) : OneC B' w v c l := by
  obtain ⟨b, cap, g, cp, h1, h2, h3, h4, h5, h6, h7, h8, h9, h10⟩ := h.ex
  exact ⟨b, cap, g, cp, h1, by omega, h3, h4, h5, h6, by omega, h8, h9, h10⟩

set_option maxRecDepth 100000 in
set_option maxHeartbeats 8000000 in
theorem components1 (g o pp k : Nat) (c : Int) (T : ByteArray) (l : List UInt8) (cp : Nat) (w : World) (h0 : w.cell? ⟨g, o, none⟩ = some (.string T)) (h1 : w.cell? ⟨g, o + 1, none⟩ = some (.pointer (some ⟨pp, 0, none⟩))) (h2 : w.cell? ⟨g, o + 2, none⟩ = some (.int .i64 k)) (h3 : w.cell? ⟨pp, 1, none⟩ = some (.int .i64 c))
    (hk : k ≤ T.size) (hx : T.extract k T.size = ⟨l.toArray⟩) :
    Calls Tryz.prog 32 #[.slice (some ⟨g, o, none⟩) 1 cp] w fun e w' => ∃ v, e = .returned v ∧ OneC w.heap.size w' v c l ∧ Below w.heap.size w w' := by
  obtain ⟨i0, hi, hz0, hz1, hz2⟩ := info_parts info24
  have hp := World.block_lt_of_cell? w _ h3
  have HO : Hid (Calls Tryz.prog 36 #[.pointer (some ⟨w.heap.size, 0, none⟩)] (w.alloc (.cells #[.string T, .pointer (some ⟨pp, 0, none⟩), .int .i64 k] 50)) fun e w' => ∃ g cp, e = .returned (.agg #[.int .i64 c, .slice (some ⟨g, 0, none⟩) l.length cp]) ∧ w.heap.size + 1 ≤ g ∧ g < w'.heap.size ∧ l.length ≤ cp ∧ At w' g 0 l ∧ Below (w.heap.size + 1) (w.alloc (.cells #[.string T, .pointer (some ⟨pp, 0, none⟩), .int .i64 k] 50)) w') := Lib.hid (by
    have := compOne w.heap.size 0 pp k c T ⟨l.toArray⟩ (w.alloc (.cells #[.string T, .pointer (some ⟨pp, 0, none⟩), .int .i64 k] 50)) (by simp [go_sem]) (by simp [go_sem]) (by simp [go_sem]) (by rw [World.cell?_alloc_past _ _ _ hp]; exact h3) hk hx
    have e : (⟨l.toArray⟩ : ByteArray).size = l.length := List.size_toArray ..
    rw [e] at this
    simpa using this)
  clear h3 hx
  go_enter Tryz.func32, Tryz.ntmps32
  go_wp2
  refine wp_loop_rounds 2 ?_
  rw [rounds_succ]
  go_wp2_with (go_at_call 36; (with_reducible refine HO.out.mono ?_); rintro e w2 ⟨g2, cp2, rfl, hg1, hg2, hcp2, hat, hb⟩; refine Hid.out ?_)
  refine Lib.hid ?_
  have hown : (w2.alloc (.cells #[.int .i64 c, .slice (some ⟨g2, 0, none⟩) l.length cp2] 24)).ownsRow w.heap.size 24 2 (.slice none 0 0) 0 [] := World.ownsRow_nil _ _ _ _
  have hbw : Below w.heap.size w w2 := ((Below.refl _ _).alloc (Nat.le_refl _) _).trans (hb.mono (Nat.le_succ _))
  have HAT := Lib.hid (And.intro hat (And.intro hg1 (And.intro hg2 hcp2)))
  have HBW := Lib.hid hbw
  clear hat hb hbw h0 h1 h2
  go_wp2_with (at_builtin; refine wpList_append_own _ rfl (.tmp 12) (.tmp 14) 31 rfl w.heap.size 24 i0 (.agg #[.int .i64 0, .slice none 0 0]) 2 32 Tryz.underlying31 hi hz0 hz1 hz2 rfl (by decide) _ _ _ rfl hown ⟨w2.heap.size, 0, none⟩ 1 1 [.int .i64 c, .slice (some ⟨g2, 0, none⟩) l.length cp2] rfl rfl (cell_two_new _ _ _ _) ?c2 ?c3 ?c4 ?c5 ?_)
  case c2 =>
    intro u hu
    simp only [List.mem_cons, List.not_mem_nil, or_false] at hu
    rcases hu with rfl | rfl <;> rfl
  case c3 => unfold maxLen; omega
  case c4 => omega
  case c5 => have := HBW.out.size; simp; omega
  intro v' w3 hown3 hgrow _
  have hB3 : Below w2.heap.size w2 w3 := ((Below.refl _ _).alloc (Nat.le_refl _) _).grown hgrow (by simp) (fun k hk => by simp [Value.ownBlock] at hk)
  have HO3 := Lib.hid hown3
  have HB3 := Lib.hid hB3
  clear hown3 hgrow hB3 hown
  go_wp2
  rw [rounds_succ]
  go_wp2
  go_ret
  obtain ⟨hat, hg1, hg2, hcp2⟩ := HAT.out
  have hB3 := HB3.out
  have hsz := HBW.out.size
  have hown3 := HO3.out
  refine ⟨v', rfl, ?_, HBW.out.trans (hB3.mono hsz)⟩
  rcases hown3.2 with ⟨_, h⟩ | ⟨b, cap, cur, hv, hbase, hheap, hle, hmax, hcur, htake⟩
  · omega
  · subst hv
    have c0 := hown3.cellAt 0 (by omega)
    have c1 := hown3.cellAt 1 (by omega)
    exact ⟨b, cap, g2, cp2, rfl, hbase, World.block_lt_of_cell? w3 _ c0, hle, c0, c1, by omega, Nat.lt_of_lt_of_le hg2 hB3.size, hcp2, hat.below hB3 hg2⟩
end Go.Proofs.YtnpcmmjdojdmnaaGreatDoor
namespace Go.Proofs.YtnpcmmjdojdmnaaGreatDoor
open Go Go.RowKit Go.Sort

/-- An address of one component, in memory that is new. -/
def MOne (B : Nat) (w : World) (v : Value) (c : Int) (l : List UInt8) : Prop :=
  ∃ g pp, v = .slice (some ⟨g, 0, none⟩) 1 1 ∧ B ≤ g ∧ g < w.heap.size ∧ w.cell? ⟨g, 0, none⟩ = some (.string ⟨(compBytes c l).toArray⟩) ∧ w.cell? ⟨g, 1, none⟩ = some (.pointer (some ⟨pp, 0, none⟩)) ∧ w.cell? ⟨g, 2, none⟩ = some (.int .i64 (Lib.uvarint c.toNat).length) ∧ ProtoAt B w pp c

theorem passes_nil (a b : Nat) (V : ByteArray) : Passes (.agg #[.func (.func a) #[] #[], .func (.func b) #[] #[], .nilFunc]) V := fun w _g _o _cp _ => twVal a b _ w
theorem fixedT4 (a b c d : UInt8) : FixedT 4 [a, b, c, d] :=
  ⟨by decide, by show psz 4 = ((4 : Nat) : Int) * 8; decide, by simp, readsCode1 4 (by decide), by decide, _, rfl, says4 a b c d, passes_nil _ _ _⟩
theorem fixedT6 (l : List UInt8) (hl : l.length = 16) (hm : mapped l = false) : FixedT 41 l :=
  ⟨by decide, by rw [hl]; decide, by omega, readsCode1 41 (by decide), by decide, _, rfl, says6 l hl hm, passes_nil _ _ _⟩

set_option maxRecDepth 100000 in
set_option maxHeartbeats 8000000 in
theorem fromIPZ4 (a b c d : UInt8) (g o cp : Nat) (w : World) (ht : Tab w) (h : At w g o [a, b, c, d]) :
    Calls Tryz.prog 66 #[.slice (some ⟨g, o, none⟩) 4 cp, .string ⟨#[]⟩] w fun e w' => ∃ v, e = .returned (.tuple #[v, .nilIface]) ∧ MOne w.heap.size w' v 4 [a, b, c, d] ∧ Below w.heap.size w w' := by
  have HS := Lib.hid (ipString4' a b c d g o cp w ht h)
  obtain ⟨s, hs⟩ : ∃ s : ByteArray, s = ⟨(quadT a.toNat b.toNat c.toNat d.toNat).toArray⟩ := ⟨_, rfl⟩
  rw [← hs] at HS
  have hsz : s.size ≤ 1000000 := by
    rw [hs]
    show ((quadT a.toNat b.toNat c.toNat d.toNat).toArray).size ≤ 1000000
    have h1 := digits3 a.toNat a.toNat_lt
    have h2 := digits3 b.toNat b.toNat_lt
    have h3 := digits3 c.toNat c.toNat_lt
    have h4 := digits3 d.toNat d.toNat_lt
    rw [List.size_toArray, quadT]; simp; omega
  have hq : quadR s.data.toList true false 0 0 [] = some [a.toNat, b.toNat, c.toNat, d.toNat] := by rw [hs]; exact quadR_quadT _ _ _ _ a.toNat_lt b.toNat_lt c.toNat_lt d.toNat_lt
  have hR : Reads 199 s [a, b, c, d] := fun wx => by
    have := ip4StB s a.toNat b.toNat c.toNat d.toNat a.toNat_lt b.toNat_lt c.toNat_lt d.toNat_lt hq wx hsz
    have e : quadBytes a.toNat b.toNat c.toNat d.toNat = [a, b, c, d] := by simp [quadBytes]
    rw [e] at this
    exact this
  have HN := Lib.hid (fun wx hx => newComp (fixedT4 a b c d) (by rw [compBytes, if_neg (by decide), show (4 : Int).toNat = 4 from rfl, Lib.uvarint_small (by decide)]; simp) _ rfl s (fun wy => twStB199 s _ hR wy) wx hx)
  have HT := Lib.hid ht
  have en : pname 4 = ⟨#[105, 112, 52]⟩ := by decide
  rw [en] at HN
  clear hs hq hR hsz h ht en
  go_enter Tryz.func66, Tryz.ntmps66
  go_wp2_with (first
    | (go_at_call 97; (with_reducible refine (to4_self _ _ _).mono ?_); rintro e w2 ⟨rfl, rfl⟩)
    | (go_at_call 99; (with_reducible refine HS.out.mono ?_); rintro e w3 ⟨rfl, hb3⟩)
    | (go_at_call 98; (with_reducible refine (HN.out _ (HT.out.below hb3 (Nat.le_refl _))).mono ?_); rintro e w4 ⟨q, rfl, ⟨q1, q2, pp, c0, c1, c2, hp⟩, hb4⟩)
    | (go_at_call 100; (with_reducible refine (compMulti _ _ _ _ _ c0 c1 c2).mono ?_); rintro e w5 ⟨rfl, rfl⟩))
  go_ret2
  have h1 := hb3.size
  have h2 := hb4.size
  exact ⟨_, rfl, ⟨w4.heap.size, pp, rfl, by omega, by simp, by simp [go_sem], by simp [go_sem], by simp [go_sem], (hp.below ((Below.refl _ _).alloc (Nat.le_refl _) _) (Nat.le_refl _)).mono (by omega)⟩, (hb3.trans (hb4.mono (by omega))).alloc (by omega) _⟩

set_option maxRecDepth 100000 in
set_option maxHeartbeats 8000000 in
theorem fromIPZ6 (l : List UInt8) (hl : l.length = 16) (hm : mapped l = false) (g o cp : Nat) (hcp : 16 ≤ cp) (w : World) (ht : Tab w) (h : At w g o l) :
    Calls Tryz.prog 66 #[.slice (some ⟨g, o, none⟩) 16 cp, .string ⟨#[]⟩] w fun e w' => ∃ v, e = .returned (.tuple #[v, .nilIface]) ∧ MOne w.heap.size w' v 41 l ∧ Below w.heap.size w w' := by
  have HS := Lib.hid (ipString6 l hl hm g o cp hcp w h)
  have H4 := Lib.hid (to4_none g o cp l w hl hcp h hm)
  have HN : Hid (∀ (s : ByteArray), V6 s (groupsOf l) → ∀ wx, Tab wx → Calls Tryz.prog 98 #[.string ⟨#[105, 112, 54]⟩, .string s] wx fun e w' => ∃ q, e = .returned (.tuple #[.pointer (some ⟨q, 0, none⟩), .nilIface]) ∧ CompAtK wx.heap.size w' q 41 l ∧ Below wx.heap.size wx w') := Lib.hid fun s hv wx hx => by
    have hR : Reads 206 s l := fun wy => ip6StB s (groupsOf l) hv l (groupsOf_bytes l hl) wy
    have := newComp (fixedT6 l hl hm) (by rw [compBytes, if_neg (by decide), show (41 : Int).toNat = 41 from rfl, Lib.uvarint_small (by decide)]; simp; omega) _ rfl s (fun wy => twStB206 s _ hR wy) wx hx
    have en : pname 41 = ⟨#[105, 112, 54]⟩ := by decide
    rwa [en] at this
  have HT := Lib.hid ht
  clear h ht hm
  go_enter Tryz.func66, Tryz.ntmps66
  go_wp2_with (first
    | (go_at_call 97; (with_reducible refine H4.out.mono ?_); rintro e w2 ⟨rfl, rfl⟩)
    | (go_at_call 101; (with_reducible refine (to16_self _ _ _).mono ?_); rintro e w2 ⟨rfl, rfl⟩)
    | (go_at_call 99; (with_reducible refine HS.out.mono ?_); rintro e w3 ⟨s, rfl, hv, hb3⟩)
    | (go_at_call 98; (with_reducible refine (HN.out _ hv _ (HT.out.below hb3 (Nat.le_refl _))).mono ?_); rintro e w4 ⟨q, rfl, ⟨q1, q2, pp, c0, c1, c2, hp⟩, hb4⟩)
    | (go_at_call 100; (with_reducible refine (compMulti _ _ _ _ _ c0 c1 c2).mono ?_); rintro e w5 ⟨rfl, rfl⟩))
  go_ret2
  have h1 := hb3.size
  have h2 := hb4.size
  exact ⟨_, rfl, ⟨w4.heap.size, pp, rfl, by omega, by simp, by simp [go_sem], by simp [go_sem], by simp [go_sem], (hp.below ((Below.refl _ _).alloc (Nat.le_refl _) _) (Nat.le_refl _)).mono (by omega)⟩, (hb3.trans (hb4.mono (by omega))).alloc (by omega) _⟩

/-- An IP address that is asked for, and the code of its protocol. -/
def IsIP (c : Int) (l : List UInt8) : Prop := (c = 4 ∧ l.length = 4) ∨ (c = 41 ∧ l.length = 16 ∧ mapped l = false)
theorem fromIPZ {c : Int} {l : List UInt8} (hi : IsIP c l) (g o cp : Nat) (hcp : l.length ≤ cp) (w : World) (ht : Tab w) (h : At w g o l) :
    Calls Tryz.prog 66 #[.slice (some ⟨g, o, none⟩) l.length cp, .string ⟨#[]⟩] w fun e w' => ∃ v, e = .returned (.tuple #[v, .nilIface]) ∧ MOne w.heap.size w' v c l ∧ Below w.heap.size w w' := by
  rcases hi with ⟨rfl, hl⟩ | ⟨rfl, hl, hm⟩
  · match l, hl with
    | [a, b, c, d], _ => exact fromIPZ4 a b c d g o cp w ht h
  · rw [hl] at hcp ⊢
    exact fromIPZ6 l hl hm g o cp hcp w ht h
theorem IsIP.known {c : Int} {l : List UInt8} (h : IsIP c l) : known c = true := by rcases h with ⟨rfl, _⟩ | ⟨rfl, _⟩ <;> decide
theorem IsIP.len {c : Int} {l : List UInt8} (h : IsIP c l) : 1 ≤ l.length ∧ l.length ≤ 16 := by rcases h with ⟨rfl, h⟩ | ⟨rfl, h, _⟩ <;> omega
theorem IsIP.bytes {c : Int} {l : List UInt8} (h : IsIP c l) : compBytes c l = Lib.uvarint c.toNat ++ l := by
  rcases h with ⟨rfl, _⟩ | ⟨rfl, _⟩ <;> rw [compBytes, if_neg (by decide), List.append_nil]
theorem IsIP.head {c : Int} {l : List UInt8} (h : IsIP c l) : (headBytes c l.length).length = (Lib.uvarint c.toNat).length := by
  rcases h with ⟨rfl, _⟩ | ⟨rfl, _⟩ <;> simp [headBytes, show ¬ psz 4 < 0 by decide, show ¬ psz 41 < 0 by decide]
theorem comp_extract (u l : List UInt8) : (⟨(u ++ l).toArray⟩ : ByteArray).extract u.length (⟨(u ++ l).toArray⟩ : ByteArray).size = ⟨l.toArray⟩ := by
  apply ba_ext
  rw [ByteArray.data_extract, Array.toList_extract, List.extract_eq_take_drop]
  have e : (⟨(u ++ l).toArray⟩ : ByteArray).size = u.length + l.length := by
    show ((u ++ l).toArray).size = _
    rw [List.size_toArray, List.length_append]
  rw [e]; simp

set_option maxRecDepth 100000 in
set_option maxHeartbeats 8000000 in
theorem netFromIP {c : Int} {l : List UInt8} (hi : IsIP c l) (g o cp : Nat) (hcp : l.length ≤ cp) (w : World) (ht : Tab w) (h : At w g o l) :
    Calls Tryz.prog 22 #[.slice (some ⟨g, o, none⟩) l.length cp] w fun e w' => ∃ v, e = .returned (.tuple #[v, .bool true]) ∧ OneC w.heap.size w' v c l ∧ Below w.heap.size w w' := by
  have HZ := Lib.hid (fromIPZ hi g o cp hcp w ht h)
  have HI := Lib.hid hi
  have HF : Hid (Calls Tryz.prog 44 #[.slice (some ⟨g, o, none⟩) l.length cp] w fun e w' => ∃ v, e = .returned (.tuple #[v, .nilIface]) ∧ MOne w.heap.size w' v c l ∧ Below w.heap.size w w') := Lib.hid (by
    go_enter Tryz.func44, Tryz.ntmps44
    go_wp2_with (go_at_call 66; (with_reducible refine HZ.out.mono ?_); rintro e w2 ⟨v, rfl, hmo, hb⟩)
    go_ret2
    exact ⟨v, rfl, hmo, hb⟩)
  clear h ht hi HZ
  go_enter Tryz.func22, Tryz.ntmps22
  go_wp2_with (go_at_call 44; (with_reducible refine HF.out.mono ?_); rintro e w2 ⟨v, rfl, ⟨gm, pp, rfl, m1, m2, m3, m4, m5, mp⟩, hb⟩; refine Hid.out ?_)
  refine Lib.hid ?_
  have HC : Hid (Calls Tryz.prog 32 #[.slice (some ⟨gm, 0, none⟩) 1 1] w2 fun e w' => ∃ v, e = .returned v ∧ OneC w2.heap.size w' v c l ∧ Below w2.heap.size w2 w') := Lib.hid (by
    obtain ⟨hp1, hp2, vc, hf, p0, p1, -⟩ := mp
    refine components1 gm 0 pp (Lib.uvarint c.toNat).length c _ l 1 w2 m3 m4 m5 p1 ?_ ?_
    · rw [HI.out.bytes]
      show _ ≤ ((Lib.uvarint c.toNat ++ l).toArray).size
      rw [List.size_toArray, List.length_append]; omega
    · rw [HI.out.bytes]; exact comp_extract _ _)
  clear m3 m4 m5 mp
  go_wp2_with (go_at_call 32; (with_reducible refine HC.out.mono ?_); rintro e w3 ⟨v, rfl, ⟨b, cap, g3, cp3, rfl, o2, o3, o4, o5, o6, o7, o8, o9, o10⟩, hb3⟩)
  go_ret2
  have hsz := hb.size
  exact ⟨_, rfl, ⟨b, cap, g3, cp3, rfl, by omega, o3, o4, o5, o6, by omega, o8, o9, o10⟩, hb.trans (hb3.mono hsz)⟩
end Go.Proofs.YtnpcmmjdojdmnaaGreatDoor
namespace Go.Proofs.YtnpcmmjdojdmnaaGreatDoor
open Go Go.RowKit Go.Sort

/-- Components of the thin package in memory. -/
def IRow (w : World) (g o : Nat) (cs : List (Int × List UInt8)) : Prop :=
  ∀ k (h : k < cs.length), w.cell? ⟨g, o + k * 2, none⟩ = some (.int .i64 cs[k].1) ∧ ∃ p cp, w.cell? ⟨g, o + k * 2 + 1, none⟩ = some (.slice p cs[k].2.length cp) ∧ BytesAt w p cs[k].2
/-- An address in memory. -/
def MAt (w : World) (g o : Nat) (cs : List (Int × List UInt8)) : Prop :=
  ∀ k (h : k < cs.length), ∃ q, w.cell? ⟨g, o + k * 3, none⟩ = some (.string ⟨(compBytes cs[k].1 cs[k].2).toArray⟩) ∧ w.cell? ⟨g, o + k * 3 + 1, none⟩ = some (.pointer (some ⟨q, 0, none⟩)) ∧
    w.cell? ⟨g, o + k * 3 + 2, none⟩ = some (.int .i64 (headBytes cs[k].1 cs[k].2.length).length) ∧ ProtoAt 0 w q cs[k].1
theorem MAt.below {w w' : World} {g o B : Nat} {cs : List (Int × List UInt8)} (h : MAt w g o cs) (hb : Below B w w') (hg : g < B) (hB : w.heap.size ≤ B) : MAt w' g o cs := fun k hk => by
  obtain ⟨q, h1, h2, h3, h4⟩ := h k hk
  exact ⟨q, (hb.cell (p := ⟨g, _, none⟩) hg).trans h1, (hb.cell (p := ⟨g, _, none⟩) hg).trans h2, (hb.cell (p := ⟨g, _, none⟩) hg).trans h3, h4.below hb hB⟩
/-- What a row's cells are. -/
def XsOf (w : World) (cs : List (Int × List UInt8)) (k : Nat) (xs : List Value) : Prop :=
  ∀ j (h : j < k) (hc : j < cs.length), ∃ q, xs[j * 3]? = some (.string ⟨(compBytes cs[j].1 cs[j].2).toArray⟩) ∧ xs[j * 3 + 1]? = some (.pointer (some ⟨q, 0, none⟩)) ∧
    xs[j * 3 + 2]? = some (.int .i64 (headBytes cs[j].1 cs[j].2.length).length) ∧ ProtoAt 0 w q cs[j].1
theorem XsOf.below {w w' : World} {B : Nat} {cs : List (Int × List UInt8)} {k : Nat} {xs : List Value} (h : XsOf w cs k xs) (hb : Below B w w') (hB : w.heap.size ≤ B) : XsOf w' cs k xs := fun j hj hc => by
  obtain ⟨q, h1, h2, h3, h4⟩ := h j hj hc
  exact ⟨q, h1, h2, h3, h4.below hb hB⟩
theorem XsOf.snoc {w : World} {cs : List (Int × List UInt8)} {k q : Nat} {xs : List Value} (h : XsOf w cs k xs) (hl : xs.length = k * 3) (hk : k < cs.length) (hp : ProtoAt 0 w q cs[k].1) :
    XsOf w cs (k + 1) (xs ++ [.string ⟨(compBytes cs[k].1 cs[k].2).toArray⟩, .pointer (some ⟨q, 0, none⟩), .int .i64 (headBytes cs[k].1 cs[k].2.length).length]) := fun j hj hc => by
  by_cases hjk : j < k
  · obtain ⟨q', h1, h2, h3, h4⟩ := h j hjk hc
    exact ⟨q', by rw [List.getElem?_append_left (by omega)]; exact h1, by rw [List.getElem?_append_left (by omega)]; exact h2, by rw [List.getElem?_append_left (by omega)]; exact h3, h4⟩
  · obtain rfl : j = k := by omega
    refine ⟨q, ?_, ?_, ?_, hp⟩
    · rw [List.getElem?_append_right (by omega), show j * 3 - xs.length = 0 by omega]; rfl
    · rw [List.getElem?_append_right (by omega), show j * 3 + 1 - xs.length = 1 by omega]; rfl
    · rw [List.getElem?_append_right (by omega), show j * 3 + 2 - xs.length = 2 by omega]; rfl

theorem ProtoAt.keep {B : Nat} {w w' : World} {q : Nat} {c : Int} {row : Option Nat} (h : ProtoAt B w q c) (hg : w.grownBy w' row) (h1 : row ≠ some q) (h2 : ∀ g l cp, w.cell? ⟨q, 2, none⟩ = some (.slice (some ⟨g, 0, none⟩) l cp) → w.cell? ⟨g, 0, none⟩ ≠ none → row ≠ some g) : ProtoAt B w' q c := by
  obtain ⟨a1, a2, vc, ⟨g, g1, g2, rfl, g4⟩, p0, p1, p2, p3, p4, p5⟩ := h
  have hq : ∀ j, w'.cell? ⟨q, j, none⟩ = w.cell? ⟨q, j, none⟩ := fun j => World.cell?_of_block (hg.block q a2 (fun e => h1 e.symm))
  have hn := Lib.uvarint_pos c.toNat
  have hgg := h2 g _ _ p2 (by rw [g4 0 (by omega)]; simp)
  have hc : ∀ j, w'.cell? ⟨g, j, none⟩ = w.cell? ⟨g, j, none⟩ := fun j => World.cell?_of_block (hg.block g g2 (fun e => hgg e.symm))
  exact ⟨a1, Nat.lt_of_lt_of_le a2 hg.size, _, ⟨g, g1, Nat.lt_of_lt_of_le g2 hg.size, rfl, fun j hj => (hc j).trans (g4 j hj)⟩, (hq 0).trans p0, (hq 1).trans p1, (hq 2).trans p2, (hq 3).trans p3, (hq 4).trans p4, (hq 5).trans p5⟩
/-- A protocol's blocks are not a row of components that has an element. -/
theorem ProtoAt.keepRow {B : Nat} {w w' : World} {q : Nat} {c : Int} {b : Nat} {T : ByteArray} {p : Option Addr} (h : ProtoAt B w q c) (hg : w.grownBy w' (some b)) (hb0 : w.cell? ⟨b, 0, none⟩ = some (.string T)) (hb1 : w.cell? ⟨b, 1, none⟩ = some (.pointer p)) : ProtoAt B w' q c := by
  have h' := h
  obtain ⟨a1, a2, vc, ⟨g, g1, g2, rfl, g4⟩, p0, p1, p2, p3, p4, p5⟩ := h'
  have hn := Lib.uvarint_pos c.toNat
  refine h.keep hg (fun e => ?_) (fun g' l cp hc _ e => ?_)
  · obtain rfl := Option.some.inj e
    rw [p1] at hb1; cases hb1
  · obtain rfl := Option.some.inj e
    rw [p2] at hc
    injection hc with hc
    injection hc with hc
    injection hc with hc
    injection hc with hc
    subst hc
    rw [g4 0 (by omega)] at hb0; cases hb0

set_option maxRecDepth 100000 in
set_option maxHeartbeats 8000000 in
theorem address (cs : List (Int × List UInt8)) (hne : cs ≠ []) (hkn : ∀ x ∈ cs, known x.1 = true ∧ x.2.length ≤ 1000) (hn : cs.length ≤ 100) (g o cp : Nat) (w : World) (h : IRow w g o cs) :
    Calls Tryz.prog 39 #[.slice (some ⟨g, o, none⟩) cs.length cp] w fun e w' => ∃ b cap, e = .returned (.slice (some ⟨b, 0, none⟩) cs.length cap) ∧ w.heap.size ≤ b ∧ b < w'.heap.size ∧ cs.length ≤ cap ∧ MAt w' b 0 cs ∧ Below w.heap.size w w' := by
  obtain ⟨i0, hi, hz0, hz1, hz2⟩ := info_parts info50
  have HR := Lib.hid h
  have HK := Lib.hid hkn
  have HNE : Hid (0 < cs.length) := Lib.hid (by cases cs with | nil => exact absurd rfl hne | cons a r => simp)
  clear h hkn hne
  go_enter Tryz.func39, Tryz.ntmps39
  go_wp2
  go_loopw [3, 8] (fun v3 v8 wr => ∃ (k : Nat) (xs : List Value), v8 = .int .i64 k ∧ k ≤ cs.length ∧ wr.ownsRow w.heap.size 50 3 v3 k xs ∧ Hid (XsOf wr cs k xs) ∧ Below w.heap.size w wr) (fun _ v8 _ => cs.length - (intOf v8).toNat)
  case atStart => exact ⟨0, [], rfl, Nat.zero_le _, World.ownsRow_nil _ _ _ _, Lib.hid (fun j h => by omega), Below.refl _ _⟩
  case round =>
    obtain ⟨k, xs, rfl, hk, hown, hxs, hbl⟩ := hrel
    by_cases hlt : k < cs.length
    · obtain ⟨r0, p, cpl, r1, r2⟩ := HR.out k hlt
      have hgg := World.block_lt_of_cell? w _ r0
      have c0 : wr.cell? ⟨g, o + k * 2, none⟩ = some (.int .i64 cs[k].1) := (hbl.cell (p := ⟨g, o + k * 2, none⟩) hgg).trans r0
      have c1 : wr.cell? ⟨g, o + k * 2 + 1, none⟩ = some (.slice p cs[k].2.length cpl) := (hbl.cell (p := ⟨g, o + k * 2 + 1, none⟩) hgg).trans r1
      obtain ⟨hkk, hkl⟩ := HK.out cs[k] (List.getElem_mem _)
      have hB : BytesAt wr p cs[k].2 := r2.below hbl r2.lt
      have HC : Hid (∀ o', Calls Tryz.prog 28 #[.agg #[.int .i64 cs[k].1, .slice p cs[k].2.length cpl]] (wr.alloc o') fun e w' => ∃ q, e = .returned (.agg #[.string ⟨(compBytes cs[k].1 cs[k].2).toArray⟩, .pointer (some ⟨q, 0, none⟩), .int .i64 (headBytes cs[k].1 cs[k].2.length).length]) ∧ ProtoAt (wr.alloc o').heap.size w' q cs[k].1 ∧ Below (wr.alloc o').heap.size (wr.alloc o') w') :=
        Lib.hid fun o' => component cs[k].1 hkk p cs[k].2 cpl _ (hB.below ((Below.refl _ _).alloc (Nat.le_refl _) _) hB.lt) (by omega)
      have HX0 := Lib.hid (And.intro c0 c1)
      clear hB r0 r1 r2 hkk hkl
      go_wp2_with (go_at_call 28; (with_reducible refine (HC.out _).mono ?_); rintro e w2 ⟨q, rfl, hp, hb⟩; refine Hid.out ?_)
      refine Lib.hid ?_
      have hb2 : Below wr.heap.size wr w2 := ((Below.refl _ _).alloc (Nat.le_refl _) _).trans (hb.mono (by simp))
      have hown2 : w2.ownsRow w.heap.size 50 3 u3 k xs := hown.kept (row := none) ⟨hb2.os, hb2.tape, hb2.output, hb2.size, fun k hk _ => hb2.block k hk⟩ (by cases hh : Value.ownBlock _ <;> simp)
      have HXS2 := Lib.hid (hxs.out.below hb2 (Nat.le_refl _))
      have hbl2 : Below w.heap.size w w2 := hbl.trans (hb2.mono hbl.size)
      have hz2' := hbl2.size
      have HBL2 := Lib.hid hbl2
      have HP2 : Hid (ProtoAt (wr.heap.size + 1) w2 q cs[k].1) := Lib.hid (by simpa using hp)
      have HLT := Lib.hid (fun b (h : Value.ownBlock u3 = some b) => (hown.lt b h).2)
      clear hb hb2 hp hown hxs hbl hbl2 c0 c1
      go_wp2_with (at_builtin; refine wpList_append_own _ rfl (.tmp 12) (.tmp 15) 56 rfl w.heap.size 50 i0 (.agg #[.string ⟨#[]⟩, .pointer none, .int .i64 0]) 3 32 Tryz.underlying56 hi hz0 hz1 hz2 rfl (by decide) _ _ _ rfl (hown2.alloc _) ⟨w2.heap.size, 0, none⟩ 1 1 [.string ⟨(compBytes cs[k].1 cs[k].2).toArray⟩, .pointer (some ⟨q, 0, none⟩), .int .i64 (headBytes cs[k].1 cs[k].2.length).length] rfl rfl (cell_three_new _ _ _ _ _) ?c2 ?c3 ?c4 ?c5 ?_)
      case c2 =>
        intro u hu
        simp only [List.mem_cons, List.not_mem_nil, or_false] at hu
        rcases hu with rfl | rfl | rfl <;> rfl
      case c3 => unfold maxLen; omega
      case c4 => omega
      case c5 => simp; omega
      intro v' w3 hown3 hgrow _
      have hb3 : Below w.heap.size w w3 := (HBL2.out.alloc hz2' _).grown hgrow (by simp; omega) (fun k hk => (hown2.lt k hk).1)
      have hP3 : ProtoAt 0 w3 q cs[k].1 := by
        have h2 : ProtoAt (wr.heap.size + 1) (w2.alloc (.cells #[.string ⟨(compBytes cs[k].1 cs[k].2).toArray⟩, .pointer (some ⟨q, 0, none⟩), .int .i64 (headBytes cs[k].1 cs[k].2.length).length] 50)) q cs[k].1 := HP2.out.below ((Below.refl _ _).alloc (Nat.le_refl _) _) (Nat.le_refl _)
        obtain ⟨a1, a2, vc, ⟨gg, g1, g2, rfl, g4⟩, p0, p1, p2, p3, p4, p5⟩ := h2
        refine (ProtoAt.keep (B := wr.heap.size + 1) ⟨a1, a2, _, ⟨gg, g1, g2, rfl, g4⟩, p0, p1, p2, p3, p4, p5⟩ hgrow (fun e => ?_) (fun g' l' cp' hc _ e => ?_)).mono (Nat.zero_le _)
        · have := HLT.out q e; omega
        · have := HLT.out g' e
          rw [p2] at hc
          injection hc with hc; injection hc with hc; injection hc with hc; injection hc with hc
          omega
      have hX3 : XsOf w3 cs k xs := by
        intro j hj hc
        obtain ⟨q', x1, x2, x3, x4⟩ := HXS2.out j hj hc
        refine ⟨q', x1, x2, x3, ?_⟩
        have h4 : ProtoAt 0 (w2.alloc (.cells #[.string ⟨(compBytes cs[k].1 cs[k].2).toArray⟩, .pointer (some ⟨q, 0, none⟩), .int .i64 (headBytes cs[k].1 cs[k].2.length).length] 50)) q' cs[j].1 := x4.below ((Below.refl _ _).alloc (Nat.le_refl _) _) (Nat.le_refl _)
        cases hrow : Value.ownBlock u3 with
        | none => rw [hrow] at hgrow; exact h4.keep hgrow (by simp) (by simp)
        | some b =>
          rw [hrow] at hgrow
          obtain ⟨q0, y1, y2, _, _⟩ := HXS2.out 0 (by omega) (by omega)
          have hcells := (hown2.alloc (.cells #[.string ⟨(compBytes cs[k].1 cs[k].2).toArray⟩, .pointer (some ⟨q, 0, none⟩), .int .i64 (headBytes cs[k].1 cs[k].2.length).length] 50)).cells hrow
          have z0 := hcells 0 _ y1
          have z1 := hcells 1 _ y2
          rw [Addr.add_lit] at z0 z1
          exact h4.keepRow hgrow z0 z1
      have hX4 := hX3.snoc hown2.1 hlt hP3
      have HO3 := Lib.hid (And.intro hown3 (And.intro hX4 hb3))
      clear hown3 hX3 hX4 hb3 hP3 hgrow hown2
      go_wp2
      obtain ⟨hown3, hX4, hb3⟩ := HO3.out
      exact ⟨⟨k + 1, _, by go_num, by omega, hown3, Lib.hid hX4, hb3⟩, by simp [intOf]; omega⟩
    · have hke : k = cs.length := by omega
      subst hke
      have HO := Lib.hid hown
      rcases hown.2 with ⟨_, h⟩ | ⟨b, cap, cur, hv, hbase, hheap, hle, hmax, hcur, htake⟩
      · have := HNE.out; omega
      subst hv
      have HA : Hid (MAt wr b 0 cs) := Lib.hid fun j hj => by
        obtain ⟨q, x1, x2, x3, x4⟩ := hxs.out j hj hj
        exact ⟨q, by rw [Nat.zero_add, HO.out.cellAt _ (by omega)]; exact x1, by rw [Nat.zero_add, HO.out.cellAt _ (by omega)]; exact x2, by rw [Nat.zero_add, HO.out.cellAt _ (by omega)]; exact x3, x4⟩
      have hbl' := (hown.lt b rfl).2
      clear hown hheap htake hcur
      go_wp2
      go_ret
      exact ⟨b, cap, rfl, hbase, hbl', hle, HA.out, hbl⟩
end Go.Proofs.YtnpcmmjdojdmnaaGreatDoor
