/- validateComponent (75): components with a value of varying length. -/
import Derived.Test.YtnpcmmjdojdmnaaGreatDoorSb
namespace Go.Proofs.YtnpcmmjdojdmnaaGreatDoor
open Go Go.RowKit Go.Sort

set_option maxRecDepth 100000 in
set_option maxHeartbeats 8000000 in
theorem validate_varY (q pp g n k m : Nat) (T U V X : ByteArray) (pl : Value) (w : World) (h0 : CS w q pp g n T (n + k) (-1) (.iface 177 pl) w) (hU : At w g 0 U.data.toList) (hn : U.size = n) (hn1 : 1 ≤ n) (hm : 1 ≤ m) (hV : V.size = m)
    (hX : X.size = k + m) (hr : rdCode X.data.toList = some (m, k)) (hT : T.size = n + k + m) (hlim : n + k + m ≤ 1000000) (hxU : T.extract 0 n = U) (hxX : T.extract n T.size = X) (hxV : T.extract (n + k) T.size = V) (hs : SaysY pl V) (hp : MindsY pl V) (he : Env w) :
    Calls Tryz.prog 75 #[.pointer (some ⟨q, 0, none⟩)] w fun e w' => e = .returned .nilIface ∧ Below w.heap.size w w' := by
  have h00 := h0
  obtain ⟨c0, c1, c2, c3, c4, c5, _⟩ := h00
  have HVE : Hid (∀ w', Below w.heap.size w w' → Calls Tryz.prog 152 #[.pointer (some ⟨q, 0, none⟩)] w' fun e w'' => ∃ s, e = .returned (.tuple #[.string s, .nilIface]) ∧ Below w.heap.size w w'') := Lib.hid fun w' hb => by
    obtain ⟨d0, d1, d2, d3, d4, d5, _⟩ := CS.of h0 hb
    refine (valueAndErrY q pp T V (n + k) pl w' ⟨d0, d1, d2, d5, Below.refl _ _⟩ (by omega) hxV (by omega) hs (he.up hb)).mono ?_
    rintro e w'' ⟨s, rfl, hb2⟩
    exact ⟨s, rfl, hb.trans (hb2.mono hb.size)⟩
  have HE0 := Lib.hid he
  have HP := Lib.hid hp; clear hp hs he
  have hxV2 : T.extract (n + k) (n + k + m) = V := by rw [← hT]; exact hxV
  have hxX2 : T.extract n (n + k + m) = X := by rw [← hT]; exact hxX
  have hg : g < w.heap.size := hU.lt (by rw [Array.length_toList]; show 0 < U.size; omega)
  have hcv := conv_string
  have hM := method_val pl
  have k1 : (((n + k : Nat) : Int) : Int) ≤ (T.size : Int) := by omega
  have k2 : decide ((T.size : Int) < (((n + k : Nat) : Int) : Int)) = false := by simp; omega
  have k1n : (n : Int) ≤ (T.size : Int) := by omega
  have k2n : decide ((T.size : Int) < (n : Int)) = false := by simp; omega
  have k3 : ((n : Int) == 0) = false := by simp; omega
  have k7 : IntKind.i64.wrap ((n : Int) + (k : Int)) = (n : Int) + (k : Int) := IntWalk.i64_in _ (by omega)
  have k8 : IntKind.i64.wrap ((n : Int) + (k : Int) + (m : Int)) = (n : Int) + (k : Int) + (m : Int) := IntWalk.i64_in _ (by omega)
  have HE : Hid (∀ w', Below w.heap.size w w' → Calls Tryz.prog 151 #[.slice (some ⟨w'.heap.size, 0, none⟩) n (grownCap w' n 0 5), .slice (some ⟨g, 0, none⟩) n n] (Lib.bytesWorld w' 5 U) fun e w'' => e = .returned (.bool true) ∧ w'' = Lib.bytesWorld w' 5 U) := Lib.hid fun w' hb => by
    have := equalAt (bytesWorld_at w' U) ((hU.below hb hg).below (Lib.bytesWorld_below _ _ _) (Nat.lt_of_lt_of_le hg hb.size)) (grownCap w' n 0 5) n
    rw [Array.length_toList, show U.data.size = n from hn] at this
    exact this
  clear hU
  go_enter Tryz.func75, Tryz.ntmps75
  go_wp2
  go_quiet (fail)
  go_wp2
  go_quiet (fail)
  go_wp2
  generalize hw9 : World.drewN (World.drewN w _) _ = w9
  have hb9 : Below w.heap.size w w9 := by rw [← hw9]; exact below_drewN (below_drewN (Below.refl _ _) _) _
  have h9 := CS.of h0 hb9
  have h09 := h9
  obtain ⟨d0, d1, d2, d3, d4, d5, _⟩ := h9
  have HE9 : Hid (Calls Tryz.prog 151 #[.slice (some ⟨w9.heap.size, 0, none⟩) n (grownCap w9.drew n 0 5), .slice (some ⟨g, 0, none⟩) n n] (Lib.bytesWorld w9.drew 5 U) fun e w'' => e = .returned (.bool true) ∧ w'' = Lib.bytesWorld w9.drew 5 U) := Lib.hid (HE.out w9.drew hb9.drew)
  clear c0 c1 c2 c3 c4 c5 HE hw9
  go_region_held (fun w' => CS w q pp g n T (n + k) (-1) (.iface 177 pl) w')
    (first
      | with_reducible assumption
      | exact CS.of h0 hb9.drew
      | exact CS.of h0 ((‹CS w q pp g n T _ _ _ _›).2.2.2.2.2.2.trans ((Lib.bytesWorld_below _ _ _).mono (‹CS w q pp g n T _ _ _ _›).2.2.2.2.2.2.size)))
    ((go_at_call 151; (with_reducible refine HE9.out.mono ?_); rintro e w2 ⟨rfl, rfl⟩))
  all_goals
    have hb2 : Below w.heap.size w (Lib.bytesWorld w9.drew 5 U) := hb9.drew.trans ((Lib.bytesWorld_below _ _ _).mono hb9.size)
    clear HE9 d0 d1 d2 d3 d4 d5
    generalize Lib.bytesWorld w9.drew 5 U = w2 at *
    obtain ⟨d0, d1, d2, d3, d4, d5, _⟩ := CS.of h0 hb2
    have H74 : Hid (Calls Tryz.prog 74 #[.slice (some ⟨w2.heap.size, 0, none⟩) (k + m) (grownCap w2.drew (k + m) 0 5)] (Lib.bytesWorld w2.drew 5 X) fun e w'' => e = .returned (.tuple #[.int .i64 m, .int .i64 k, .nilIface]) ∧ Below w.heap.size w w'') := Lib.hid (by
      have hbx : Below w.heap.size w (Lib.bytesWorld w2.drew 5 X) := hb2.drew.trans ((Lib.bytesWorld_below _ _ _).mono hb2.size)
      refine (readVarintCode w2.heap.size 0 (k + m) _ X.data.toList (Lib.bytesWorld w2.drew 5 X) (by rw [Array.length_toList]; exact hX) (bytesWorld_at w2.drew X) (HE0.out.up hbx).errs).mono ?_
      rw [hr]
      rintro e w4 ⟨rfl, hb4⟩
      exact ⟨rfl, hbx.trans (hb4.mono hbx.size)⟩)
    go_wp2
    go_region_held (fun w' => CS w q pp g n T (n + k) (-1) (.iface 177 pl) w')
      (first
        | with_reducible assumption
        | exact CS.of h0 hb2.drew
        | exact CS.of h0 hb4
        | exact CS.of h0 ((‹CS w q pp g n T _ _ _ _›).2.2.2.2.2.2.trans ((Lib.bytesWorld_below _ _ _).mono (‹CS w q pp g n T _ _ _ _›).2.2.2.2.2.2.size)))
      ((go_at_call 74; (with_reducible refine H74.out.mono ?_); rintro e w4 ⟨rfl, hb4⟩))
    all_goals
      clear H74 d0 d1 d2 d3 d4 d5
      obtain ⟨d0, d1, d2, d3, d4, d5, _⟩ := CS.of h0 hb4
      go_wp2
      go_quiet (fail)
      go_wp2
      go_quiet (fail)
      go_wp2_with (go_at_call 152; (with_reducible refine (HVE.out _ (by first | exact below_drewN hb4 _ | exact below_drewN (below_drewN hb4 _) _)).mono ?_); rintro e w3 ⟨s, rfl, hb3⟩; obtain ⟨f0, f1, f2, f3, f4, f5, _⟩ := CS.of h0 hb3)
      have HP3 : Hid (Calls Tryz.prog 430 #[pl, .slice (some ⟨w3.heap.size, 0, none⟩) m (grownCap w3.drew m 0 5)] (Lib.bytesWorld w3.drew 5 V) fun e w'' => e = .returned .nilIface ∧ Below w.heap.size w w'') := Lib.hid (by
        have hbx : Below w.heap.size w (Lib.bytesWorld w3.drew 5 V) := hb3.drew.trans ((Lib.bytesWorld_below _ _ _).mono hb3.size)
        have := HP.out _ _ 0 (grownCap w3.drew m 0 5) (by rw [hV]; exact le_grown _ _) (HE0.out.up hbx) (bytesWorld_at w3.drew V)
        rw [hV] at this
        refine this.mono ?_
        rintro e w4 ⟨rfl, hb4⟩
        exact ⟨rfl, hbx.trans (hb4.mono hbx.size)⟩)
      clear HVE HP d0 d1 d2 d3 d4 d5
      go_region_held (fun w' => CS w q pp g n T (n + k) (-1) (.iface 177 pl) w')
        (first
          | with_reducible assumption
          | exact CS.of h0 hb3.drew
          | exact CS.of h0 hb5
          | exact CS.of h0 ((‹CS w q pp g n T _ _ _ _›).2.2.2.2.2.2.trans ((Lib.bytesWorld_below _ _ _).mono (‹CS w q pp g n T _ _ _ _›).2.2.2.2.2.2.size)))
        ((go_at_call 430; (with_reducible refine HP3.out.mono ?_); rintro e w5 ⟨rfl, hb5⟩))
      all_goals
        go_wp2
        go_ret
        exact ⟨rfl, hb5⟩

set_option maxRecDepth 100000 in
set_option maxHeartbeats 8000000 in
theorem validate_varA (q pp g n k m : Nat) (T U V X : ByteArray) (pl : Value) (w : World) (h0 : CS w q pp g n T (n + k) (-1) (.iface 177 pl) w) (hU : At w g 0 U.data.toList) (hn : U.size = n) (hn1 : 1 ≤ n) (hm : 1 ≤ m) (hV : V.size = m)
    (hX : X.size = k + m) (hr : rdCode X.data.toList = some (m, k)) (hT : T.size = n + k + m) (hlim : n + k + m ≤ 1000000) (hxU : T.extract 0 n = U) (hxX : T.extract n T.size = X) (hxV : T.extract (n + k) T.size = V) (hs : SaysN pl V) (he : Env w) :
    Calls Tryz.prog 75 #[.pointer (some ⟨q, 0, none⟩)] w fun e w' => ∃ t p, e = .returned (.iface t p) ∧ Below w.heap.size w w' := by
  have h00 := h0
  obtain ⟨c0, c1, c2, c3, c4, c5, _⟩ := h00
  have HVE : Hid (∀ w', Below w.heap.size w w' → Calls Tryz.prog 152 #[.pointer (some ⟨q, 0, none⟩)] w' fun e w'' => ∃ s t p, e = .returned (.tuple #[.string s, .iface t p]) ∧ Below w.heap.size w w'') := Lib.hid fun w' hb => by
    obtain ⟨d0, d1, d2, d3, d4, d5, _⟩ := CS.of h0 hb
    refine (valueAndErrN q pp T V (n + k) pl w' ⟨d0, d1, d2, d5, Below.refl _ _⟩ (by omega) hxV (by omega) hs (he.up hb)).mono ?_
    rintro e w'' ⟨s, t, p, rfl, hb2⟩
    exact ⟨s, t, p, rfl, hb.trans (hb2.mono hb.size)⟩
  have HE0 := Lib.hid he
  clear hs he
  have hxV2 : T.extract (n + k) (n + k + m) = V := by rw [← hT]; exact hxV
  have hxX2 : T.extract n (n + k + m) = X := by rw [← hT]; exact hxX
  have hg : g < w.heap.size := hU.lt (by rw [Array.length_toList]; show 0 < U.size; omega)
  have hcv := conv_string
  have k1 : (((n + k : Nat) : Int) : Int) ≤ (T.size : Int) := by omega
  have k2 : decide ((T.size : Int) < (((n + k : Nat) : Int) : Int)) = false := by simp; omega
  have k1n : (n : Int) ≤ (T.size : Int) := by omega
  have k2n : decide ((T.size : Int) < (n : Int)) = false := by simp; omega
  have k3 : ((n : Int) == 0) = false := by simp; omega
  have k7 : IntKind.i64.wrap ((n : Int) + (k : Int)) = (n : Int) + (k : Int) := IntWalk.i64_in _ (by omega)
  have k8 : IntKind.i64.wrap ((n : Int) + (k : Int) + (m : Int)) = (n : Int) + (k : Int) + (m : Int) := IntWalk.i64_in _ (by omega)
  have HE : Hid (∀ w', Below w.heap.size w w' → Calls Tryz.prog 151 #[.slice (some ⟨w'.heap.size, 0, none⟩) n (grownCap w' n 0 5), .slice (some ⟨g, 0, none⟩) n n] (Lib.bytesWorld w' 5 U) fun e w'' => e = .returned (.bool true) ∧ w'' = Lib.bytesWorld w' 5 U) := Lib.hid fun w' hb => by
    have := equalAt (bytesWorld_at w' U) ((hU.below hb hg).below (Lib.bytesWorld_below _ _ _) (Nat.lt_of_lt_of_le hg hb.size)) (grownCap w' n 0 5) n
    rw [Array.length_toList, show U.data.size = n from hn] at this
    exact this
  clear hU
  go_enter Tryz.func75, Tryz.ntmps75
  go_wp2
  go_quiet (fail)
  go_wp2
  go_quiet (fail)
  go_wp2
  generalize hw9 : World.drewN (World.drewN w _) _ = w9
  have hb9 : Below w.heap.size w w9 := by rw [← hw9]; exact below_drewN (below_drewN (Below.refl _ _) _) _
  have h9 := CS.of h0 hb9
  have h09 := h9
  obtain ⟨d0, d1, d2, d3, d4, d5, _⟩ := h9
  have HE9 : Hid (Calls Tryz.prog 151 #[.slice (some ⟨w9.heap.size, 0, none⟩) n (grownCap w9.drew n 0 5), .slice (some ⟨g, 0, none⟩) n n] (Lib.bytesWorld w9.drew 5 U) fun e w'' => e = .returned (.bool true) ∧ w'' = Lib.bytesWorld w9.drew 5 U) := Lib.hid (HE.out w9.drew hb9.drew)
  clear c0 c1 c2 c3 c4 c5 HE hw9
  go_region_held (fun w' => CS w q pp g n T (n + k) (-1) (.iface 177 pl) w')
    (first
      | with_reducible assumption
      | exact CS.of h0 hb9.drew
      | exact CS.of h0 ((‹CS w q pp g n T _ _ _ _›).2.2.2.2.2.2.trans ((Lib.bytesWorld_below _ _ _).mono (‹CS w q pp g n T _ _ _ _›).2.2.2.2.2.2.size)))
    ((go_at_call 151; (with_reducible refine HE9.out.mono ?_); rintro e w2 ⟨rfl, rfl⟩))
  all_goals
    have hb2 : Below w.heap.size w (Lib.bytesWorld w9.drew 5 U) := hb9.drew.trans ((Lib.bytesWorld_below _ _ _).mono hb9.size)
    clear HE9 d0 d1 d2 d3 d4 d5
    generalize Lib.bytesWorld w9.drew 5 U = w2 at *
    obtain ⟨d0, d1, d2, d3, d4, d5, _⟩ := CS.of h0 hb2
    have H74 : Hid (Calls Tryz.prog 74 #[.slice (some ⟨w2.heap.size, 0, none⟩) (k + m) (grownCap w2.drew (k + m) 0 5)] (Lib.bytesWorld w2.drew 5 X) fun e w'' => e = .returned (.tuple #[.int .i64 m, .int .i64 k, .nilIface]) ∧ Below w.heap.size w w'') := Lib.hid (by
      have hbx : Below w.heap.size w (Lib.bytesWorld w2.drew 5 X) := hb2.drew.trans ((Lib.bytesWorld_below _ _ _).mono hb2.size)
      refine (readVarintCode w2.heap.size 0 (k + m) _ X.data.toList (Lib.bytesWorld w2.drew 5 X) (by rw [Array.length_toList]; exact hX) (bytesWorld_at w2.drew X) (HE0.out.up hbx).errs).mono ?_
      rw [hr]
      rintro e w4 ⟨rfl, hb4⟩
      exact ⟨rfl, hbx.trans (hb4.mono hbx.size)⟩)
    go_wp2
    go_region_held (fun w' => CS w q pp g n T (n + k) (-1) (.iface 177 pl) w')
      (first
        | with_reducible assumption
        | exact CS.of h0 hb2.drew
        | exact CS.of h0 hb4
        | exact CS.of h0 ((‹CS w q pp g n T _ _ _ _›).2.2.2.2.2.2.trans ((Lib.bytesWorld_below _ _ _).mono (‹CS w q pp g n T _ _ _ _›).2.2.2.2.2.2.size)))
      ((go_at_call 74; (with_reducible refine H74.out.mono ?_); rintro e w4 ⟨rfl, hb4⟩))
    all_goals
      clear H74 d0 d1 d2 d3 d4 d5
      obtain ⟨d0, d1, d2, d3, d4, d5, _⟩ := CS.of h0 hb4
      go_wp2
      go_quiet (fail)
      go_wp2
      go_quiet (fail)
      go_wp2_with (go_at_call 152; (with_reducible refine (HVE.out _ (by first | exact below_drewN hb4 _ | exact below_drewN (below_drewN hb4 _) _)).mono ?_); rintro e w3 ⟨s, t, p, rfl, hb3⟩; obtain ⟨f0, f1, f2, f3, f4, f5, _⟩ := CS.of h0 hb3)
      go_ret
      exact ⟨t, p, rfl, hb3⟩

set_option maxRecDepth 100000 in
set_option maxHeartbeats 8000000 in
theorem validate_varB (q pp g n k m : Nat) (T U V X : ByteArray) (pl : Value) (w : World) (h0 : CS w q pp g n T (n + k) (-1) (.iface 177 pl) w) (hU : At w g 0 U.data.toList) (hn : U.size = n) (hn1 : 1 ≤ n) (hm : 1 ≤ m) (hV : V.size = m)
    (hX : X.size = k + m) (hr : rdCode X.data.toList = some (m, k)) (hT : T.size = n + k + m) (hlim : n + k + m ≤ 1000000) (hxU : T.extract 0 n = U) (hxX : T.extract n T.size = X) (hxV : T.extract (n + k) T.size = V) (hs : SaysY pl V) (hp : MindsN pl V) (he : Env w) :
    Calls Tryz.prog 75 #[.pointer (some ⟨q, 0, none⟩)] w fun e w' => ∃ t p, e = .returned (.iface t p) ∧ Below w.heap.size w w' := by
  have h00 := h0
  obtain ⟨c0, c1, c2, c3, c4, c5, _⟩ := h00
  have HVE : Hid (∀ w', Below w.heap.size w w' → Calls Tryz.prog 152 #[.pointer (some ⟨q, 0, none⟩)] w' fun e w'' => ∃ s, e = .returned (.tuple #[.string s, .nilIface]) ∧ Below w.heap.size w w'') := Lib.hid fun w' hb => by
    obtain ⟨d0, d1, d2, d3, d4, d5, _⟩ := CS.of h0 hb
    refine (valueAndErrY q pp T V (n + k) pl w' ⟨d0, d1, d2, d5, Below.refl _ _⟩ (by omega) hxV (by omega) hs (he.up hb)).mono ?_
    rintro e w'' ⟨s, rfl, hb2⟩
    exact ⟨s, rfl, hb.trans (hb2.mono hb.size)⟩
  have HE0 := Lib.hid he
  have HP := Lib.hid hp; clear hp hs he
  have hxV2 : T.extract (n + k) (n + k + m) = V := by rw [← hT]; exact hxV
  have hxX2 : T.extract n (n + k + m) = X := by rw [← hT]; exact hxX
  have hg : g < w.heap.size := hU.lt (by rw [Array.length_toList]; show 0 < U.size; omega)
  have hcv := conv_string
  have hM := method_val pl
  have k1 : (((n + k : Nat) : Int) : Int) ≤ (T.size : Int) := by omega
  have k2 : decide ((T.size : Int) < (((n + k : Nat) : Int) : Int)) = false := by simp; omega
  have k1n : (n : Int) ≤ (T.size : Int) := by omega
  have k2n : decide ((T.size : Int) < (n : Int)) = false := by simp; omega
  have k3 : ((n : Int) == 0) = false := by simp; omega
  have k7 : IntKind.i64.wrap ((n : Int) + (k : Int)) = (n : Int) + (k : Int) := IntWalk.i64_in _ (by omega)
  have k8 : IntKind.i64.wrap ((n : Int) + (k : Int) + (m : Int)) = (n : Int) + (k : Int) + (m : Int) := IntWalk.i64_in _ (by omega)
  have HE : Hid (∀ w', Below w.heap.size w w' → Calls Tryz.prog 151 #[.slice (some ⟨w'.heap.size, 0, none⟩) n (grownCap w' n 0 5), .slice (some ⟨g, 0, none⟩) n n] (Lib.bytesWorld w' 5 U) fun e w'' => e = .returned (.bool true) ∧ w'' = Lib.bytesWorld w' 5 U) := Lib.hid fun w' hb => by
    have := equalAt (bytesWorld_at w' U) ((hU.below hb hg).below (Lib.bytesWorld_below _ _ _) (Nat.lt_of_lt_of_le hg hb.size)) (grownCap w' n 0 5) n
    rw [Array.length_toList, show U.data.size = n from hn] at this
    exact this
  clear hU
  go_enter Tryz.func75, Tryz.ntmps75
  go_wp2
  go_quiet (fail)
  go_wp2
  go_quiet (fail)
  go_wp2
  generalize hw9 : World.drewN (World.drewN w _) _ = w9
  have hb9 : Below w.heap.size w w9 := by rw [← hw9]; exact below_drewN (below_drewN (Below.refl _ _) _) _
  have h9 := CS.of h0 hb9
  have h09 := h9
  obtain ⟨d0, d1, d2, d3, d4, d5, _⟩ := h9
  have HE9 : Hid (Calls Tryz.prog 151 #[.slice (some ⟨w9.heap.size, 0, none⟩) n (grownCap w9.drew n 0 5), .slice (some ⟨g, 0, none⟩) n n] (Lib.bytesWorld w9.drew 5 U) fun e w'' => e = .returned (.bool true) ∧ w'' = Lib.bytesWorld w9.drew 5 U) := Lib.hid (HE.out w9.drew hb9.drew)
  clear c0 c1 c2 c3 c4 c5 HE hw9
  go_region_held (fun w' => CS w q pp g n T (n + k) (-1) (.iface 177 pl) w')
    (first
      | with_reducible assumption
      | exact CS.of h0 hb9.drew
      | exact CS.of h0 ((‹CS w q pp g n T _ _ _ _›).2.2.2.2.2.2.trans ((Lib.bytesWorld_below _ _ _).mono (‹CS w q pp g n T _ _ _ _›).2.2.2.2.2.2.size)))
    ((go_at_call 151; (with_reducible refine HE9.out.mono ?_); rintro e w2 ⟨rfl, rfl⟩))
  all_goals
    have hb2 : Below w.heap.size w (Lib.bytesWorld w9.drew 5 U) := hb9.drew.trans ((Lib.bytesWorld_below _ _ _).mono hb9.size)
    clear HE9 d0 d1 d2 d3 d4 d5
    generalize Lib.bytesWorld w9.drew 5 U = w2 at *
    obtain ⟨d0, d1, d2, d3, d4, d5, _⟩ := CS.of h0 hb2
    have H74 : Hid (Calls Tryz.prog 74 #[.slice (some ⟨w2.heap.size, 0, none⟩) (k + m) (grownCap w2.drew (k + m) 0 5)] (Lib.bytesWorld w2.drew 5 X) fun e w'' => e = .returned (.tuple #[.int .i64 m, .int .i64 k, .nilIface]) ∧ Below w.heap.size w w'') := Lib.hid (by
      have hbx : Below w.heap.size w (Lib.bytesWorld w2.drew 5 X) := hb2.drew.trans ((Lib.bytesWorld_below _ _ _).mono hb2.size)
      refine (readVarintCode w2.heap.size 0 (k + m) _ X.data.toList (Lib.bytesWorld w2.drew 5 X) (by rw [Array.length_toList]; exact hX) (bytesWorld_at w2.drew X) (HE0.out.up hbx).errs).mono ?_
      rw [hr]
      rintro e w4 ⟨rfl, hb4⟩
      exact ⟨rfl, hbx.trans (hb4.mono hbx.size)⟩)
    go_wp2
    go_region_held (fun w' => CS w q pp g n T (n + k) (-1) (.iface 177 pl) w')
      (first
        | with_reducible assumption
        | exact CS.of h0 hb2.drew
        | exact CS.of h0 hb4
        | exact CS.of h0 ((‹CS w q pp g n T _ _ _ _›).2.2.2.2.2.2.trans ((Lib.bytesWorld_below _ _ _).mono (‹CS w q pp g n T _ _ _ _›).2.2.2.2.2.2.size)))
      ((go_at_call 74; (with_reducible refine H74.out.mono ?_); rintro e w4 ⟨rfl, hb4⟩))
    all_goals
      clear H74 d0 d1 d2 d3 d4 d5
      obtain ⟨d0, d1, d2, d3, d4, d5, _⟩ := CS.of h0 hb4
      go_wp2
      go_quiet (fail)
      go_wp2
      go_quiet (fail)
      go_wp2_with (go_at_call 152; (with_reducible refine (HVE.out _ (by first | exact below_drewN hb4 _ | exact below_drewN (below_drewN hb4 _) _)).mono ?_); rintro e w3 ⟨s, rfl, hb3⟩; obtain ⟨f0, f1, f2, f3, f4, f5, _⟩ := CS.of h0 hb3)
      have HP3 : Hid (Calls Tryz.prog 430 #[pl, .slice (some ⟨w3.heap.size, 0, none⟩) m (grownCap w3.drew m 0 5)] (Lib.bytesWorld w3.drew 5 V) fun e w'' => ∃ t p, e = .returned (.iface t p) ∧ Below w.heap.size w w'') := Lib.hid (by
        have hbx : Below w.heap.size w (Lib.bytesWorld w3.drew 5 V) := hb3.drew.trans ((Lib.bytesWorld_below _ _ _).mono hb3.size)
        have := HP.out _ _ 0 (grownCap w3.drew m 0 5) (by rw [hV]; exact le_grown _ _) (HE0.out.up hbx) (bytesWorld_at w3.drew V)
        rw [hV] at this
        refine this.mono ?_
        rintro e w4 ⟨t, p, rfl, hb4⟩
        exact ⟨t, p, rfl, hbx.trans (hb4.mono hbx.size)⟩)
      clear HVE HP d0 d1 d2 d3 d4 d5
      go_region_held (fun w' => CS w q pp g n T (n + k) (-1) (.iface 177 pl) w')
        (first
          | with_reducible assumption
          | exact CS.of h0 hb3.drew
          | exact CS.of h0 hb5
          | exact CS.of h0 ((‹CS w q pp g n T _ _ _ _›).2.2.2.2.2.2.trans ((Lib.bytesWorld_below _ _ _).mono (‹CS w q pp g n T _ _ _ _›).2.2.2.2.2.2.size)))
        ((go_at_call 430; (with_reducible refine HP3.out.mono ?_); rintro e w5 ⟨t, p, rfl, hb5⟩))
      all_goals
        go_wp2
        go_ret
        exact ⟨t, p, rfl, hb5⟩
end Go.Proofs.YtnpcmmjdojdmnaaGreatDoor
