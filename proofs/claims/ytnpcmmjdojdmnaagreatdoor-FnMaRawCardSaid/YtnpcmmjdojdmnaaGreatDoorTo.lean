/- laws.FnMaRaw answers true at any bytes, if the transcoders do what chk says. The row of FnMaRaw, lifted. -/
import Derived.Test.YtnpcmmjdojdmnaaGreatDoorSf
import Derived.Test.YtnpcmmjdojdmnaaGreatDoorTn
import Derived.Test.YtnpcmmjdojdmnaaGreatDoorTm
import Derived.Test.YtnpcmmjdojdmnaaGreatDoorSs
namespace Go.Proofs.YtnpcmmjdojdmnaaGreatDoor
open Go Go.RowKit Go.Sort

theorem convert_at {w : World} {g o : Nat} {l : List UInt8} (h : At w g o l) (cp : Nat) : (convert 22 9 (.slice (some ⟨g, o, none⟩) l.length cp)).run Tryz.prog w = .ok (.string ⟨l.toArray⟩) w := convert_bytes h.bytes cp

set_option maxRecDepth 100000 in
set_option maxHeartbeats 4000000 in
theorem frames16_nil (p : Option Addr) (cp : Nat) (w : World) :
    Calls Tryz.prog 16 #[.slice p 0 cp] w fun e w' => e = .returned (.tuple #[.slice none 0 0, .bool true]) ∧ Below w.heap.size w w' := by
  go_enter Tryz.func16, Tryz.ntmps16
  go_wp2
  refine wp_loop_rounds 1 ?_
  rw [rounds_succ]
  go_wp2
  go_ret2
  exact ⟨rfl, Below.refl _ _⟩

set_option maxRecDepth 100000 in
set_option maxHeartbeats 4000000 in
theorem addr17_nil (w : World) :
    Calls Tryz.prog 17 #[.slice none 0 0] w fun e w' => e = .returned (.bool false) ∧ Below w.heap.size w w' := by
  go_enter Tryz.func17, Tryz.ntmps17
  go_wp2
  refine wp_loop_rounds 1 ?_
  rw [rounds_succ]
  go_wp2
  go_ret
  exact ⟨rfl, Below.refl _ _⟩

set_option maxRecDepth 100000 in
set_option maxHeartbeats 8000000 in
theorem fnMaRaw_no (HT : AllTrans) (p : Option Addr) (b : List UInt8) (cp : Nat) (hcp : b.length ≤ cp) (w : World) (he : Env w) (hB : BytesAt w p b) (h2000 : b.length ≤ 2000) (hrd : ¬ ∃ cs, RdOk b cs) :
    Calls Tryz.prog 5 #[.slice p b.length cp] w fun e w' => e = .returned (.bool true) ∧ Below w.heap.size w w' := by
  have e1 : decide (2147483647 < (b.length : Int)) = false := by simp; omega
  have e2 : decide (2000 < (b.length : Int)) = false := by simp; omega
  have H13 := Lib.hid (parseNo HT b hrd p cp w he hB hcp (by omega))
  have HA := Lib.hid (fun wx => maAwake wx)
  by_cases h0 : b.length = 0
  · have HF := Lib.hid (fun wx => frames16_nil p cp wx)
    have HAD := Lib.hid (fun wx => addr17_nil wx)
    rw [h0] at H13 ⊢
    clear he hB hrd e1 e2 h0 h2000 hcp
    go_enter Tryz.func5, Tryz.ntmps5
    go_wp2_with (first
      | (go_at_call 13; (with_reducible refine H13.out.mono ?_); rintro e w1 ⟨rfl, hb1⟩)
      | (go_at_call 16; (with_reducible refine (HF.out _).mono ?_); rintro e w2 ⟨rfl, hb2⟩)
      | (go_at_call 9; (with_reducible refine (HA.out _).mono ?_); rintro e w5 ⟨rfl, hb5⟩)
      | (go_at_call 17; (with_reducible refine (HAD.out _).mono ?_); rintro e w6 ⟨rfl, hb6⟩))
    go_ret
    exact ⟨rfl, ((hb1.trans (hb2.mono hb1.size)).trans (hb5.mono (Nat.le_trans hb1.size hb2.size))).trans (hb6.mono (Nat.le_trans hb1.size (Nat.le_trans hb2.size hb5.size)))⟩
  · cases p with
    | none =>
      rw [hB.1 rfl] at h0
      simp at h0
    | some a =>
      obtain ⟨g, o, rfl, hat⟩ := at_of_bytes hB (by omega)
      have HF : Hid (∀ wx, Below w.heap.size w wx → Calls Tryz.prog 16 #[.slice (some ⟨g, o, none⟩) b.length cp] wx fun e w' => (∃ v x, e = .returned (.tuple #[v, .bool x]) ∧ (x = true → ∃ cs, FrOk b cs ∧ IOut wx.heap.size w' v cs)) ∧ Below wx.heap.size wx w') := Lib.hid fun wx hb => by
        refine (frames16 b g o cp wx (hat.below hb (hat.lt (by omega))) (by omega) hcp (by omega)).mono ?_
        rintro e w' ⟨(⟨cs, v, h1, rfl, h3⟩ | ⟨_, rfl⟩), hb2⟩
        · exact ⟨⟨v, true, rfl, fun _ => ⟨cs, h1, h3⟩⟩, hb2⟩
        · exact ⟨⟨_, false, rfl, fun h => by cases h⟩, hb2⟩
      have HAD : Hid (∀ (B : Nat) (cs : List (Int × List UInt8)) (v : Value) (wx wy : World), FrOk b cs → IOut B wx v cs → Below wx.heap.size wx wy → Calls Tryz.prog 17 #[v] wy fun e w' => e = .returned (.bool false) ∧ Below wy.heap.size wy w') := Lib.hid fun B cs v wx wy h1 ⟨bb, cap, h2, h3, h4, h5, h6⟩ hb => by
        subst h2
        have hcl : cs.length ≤ 2000 := by
          have := allBytes_len cs
          rw [← h1.1] at this
          omega
        refine (addr17 B cs (fun x hx => Nat.le_trans (fr_len h1.1 x hx) (by omega)) (by omega) bb cap wy (h6.below hb (Nat.le_refl _) h4)).mono ?_
        rintro e w' ⟨x, rfl, hx, hb2⟩
        cases x with
        | false => exact ⟨rfl, hb2⟩
        | true => exact absurd ⟨cs, addr_rd h1 (hx rfl) (by omega)⟩ hrd
      clear he hB hrd hat h0 h2000 hcp
      go_enter Tryz.func5, Tryz.ntmps5
      go_wp2_with (first
        | (go_at_call 13; (with_reducible refine H13.out.mono ?_); rintro e w1 ⟨rfl, hb1⟩)
        | (go_at_call 16; (with_reducible refine (HF.out _ hb1).mono ?_); rintro e w2 ⟨⟨v, x, rfl, hx⟩, hb2⟩; refine Hid.out ?_))
      refine Lib.hid ?_
      have HX := Lib.hid hx
      clear hx
      cases x with
      | false =>
        go_wp2_with (go_at_call 9; (with_reducible refine (HA.out _).mono ?_); rintro e w5 ⟨rfl, hb5⟩)
        go_ret
        exact ⟨rfl, (hb1.trans (hb2.mono hb1.size)).trans (hb5.mono (Nat.le_trans hb1.size hb2.size))⟩
      | true =>
        obtain ⟨cs, h1, h2⟩ := HX.out rfl
        have H1 := Lib.hid h1
        have H2 := Lib.hid h2
        clear h1 h2
        go_wp2_with (first
          | (go_at_call 9; (with_reducible refine (HA.out _).mono ?_); rintro e w5 ⟨rfl, hb5⟩)
          | (go_at_call 17; (with_reducible refine (HAD.out _ _ _ _ _ H1.out H2.out hb5).mono ?_); rintro e w6 ⟨rfl, hb6⟩))
        go_ret
        exact ⟨rfl, ((hb1.trans (hb2.mono hb1.size)).trans (hb5.mono (Nat.le_trans hb1.size hb2.size))).trans (hb6.mono (Nat.le_trans hb1.size (Nat.le_trans hb2.size hb5.size)))⟩

set_option maxRecDepth 100000 in
set_option maxHeartbeats 8000000 in
theorem fnMaRaw_yes (HT : AllTrans) (b : List UInt8) (cs : List (Int × List UInt8)) (hrd : RdOk b cs) (g o cp : Nat) (w : World) (he : Env w) (hc : At w g o b) (hcp : b.length ≤ cp) (hlim : b.length ≤ 2000) :
    Calls Tryz.prog 5 #[.slice (some ⟨g, o, none⟩) b.length cp] w fun e w' => e = .returned (.bool true) ∧ Below w.heap.size w w' := by
  have hpos : 0 < cs.length := List.length_pos_iff.2 hrd.2.1
  have hb1 : 1 ≤ b.length := by have := allBytes_len cs; rw [← hrd.1] at this; omega
  have hg : g < w.heap.size := hc.lt (by omega)
  have hcl : cs.length ≤ 2000 := by have := allBytes_len cs; rw [← hrd.1] at this; omega
  have e1 : decide (2147483647 < (b.length : Int)) = false := by simp; omega
  have e2 : decide (2000 < (b.length : Int)) = false := by simp; omega
  have H13 := Lib.hid (parseYes HT b cs hrd (some ⟨g, o, none⟩) cp w he hc.bytes hcp (by omega))
  have HF : Hid (∀ wx, Below w.heap.size w wx → Calls Tryz.prog 16 #[.slice (some ⟨g, o, none⟩) b.length cp] wx fun e w' => ∃ v, e = .returned (.tuple #[v, .bool true]) ∧ IOut wx.heap.size w' v cs ∧ Below wx.heap.size wx w') := Lib.hid fun wx hb => by
    refine (frames16 b g o cp wx (hc.below hb hg) hb1 hcp (by omega)).mono ?_
    rintro e w' ⟨(⟨cs2, v, h1, rfl, h3⟩ | ⟨hno, _⟩), hb2⟩
    · rw [h1.one hrd.fr] at h3
      exact ⟨v, rfl, h3, hb2⟩
    · exact absurd ⟨cs, hrd.fr⟩ hno
  have HA := Lib.hid (fun wx => maAwake wx)
  have hll : ∀ x ∈ cs, x.2.length ≤ 1000000 := fun x hx => Nat.le_trans (fr_len hrd.1 x hx) (by omega)
  have HCV : Hid (∀ wx, Below w.heap.size w wx → (convert 22 9 (.slice (some ⟨g, o, none⟩) b.length cp)).run Tryz.prog wx = .ok (.string ⟨b.toArray⟩) wx) := Lib.hid fun wx hb => convert_at (hc.below hb hg) cp
  have HCW : Hid (∀ (g2 c2 : Nat) wx, At wx g2 0 (allBytes cs) → (convert 22 9 (.slice (some ⟨g2, 0, none⟩) b.length c2)).run Tryz.prog wx = .ok (.string ⟨b.toArray⟩) wx) := Lib.hid fun g2 c2 wx h => by
    rw [hrd.1]
    exact convert_at h c2
  have H19 : Hid (∀ (B bb cap : Nat) wx, IRowN B wx bb cs → Calls Tryz.prog 19 #[.slice (some ⟨bb, 0, none⟩) cs.length cap] wx fun e w' => ∃ g2 c2, e = .returned (.slice (some ⟨g2, 0, none⟩) b.length c2) ∧ At w' g2 0 (allBytes cs) ∧ Below wx.heap.size wx w') := Lib.hid fun B bb cap wx h => by
    rw [hrd.1]
    exact bytesOf19 B cs hrd.2.1 (fun x hx => ⟨(hrd.2.2.1 x hx).1, hll x hx⟩) (by omega) (by rw [← hrd.1]; omega) bb cap wx h
  have H18 : Hid (∀ (B1 B2 b1 c1 b2 c2 : Nat) wx, IRowN B1 wx b1 cs → IRowN B2 wx b2 cs → Calls Tryz.prog 18 #[.slice (some ⟨b1, 0, none⟩) cs.length c1, .slice (some ⟨b2, 0, none⟩) cs.length c2] wx fun e w' => e = .returned (.bool true) ∧ Below wx.heap.size wx w') := Lib.hid fun B1 B2 b1 c1 b2 c2 wx h1 h2 => alike18 B1 B2 cs (by omega) b1 c1 b2 c2 wx h1 h2
  clear hrd he hc hll
  go_enter Tryz.func5, Tryz.ntmps5
  go_wp2_with (first
    | (go_at_call 13; (with_reducible refine H13.out.mono ?_); rintro e w1 ⟨v1, rfl, ⟨bb, cap, rfl, hbb1, hbb2, hcap, hrow⟩, hbl1⟩)
    | (go_at_call 16; (with_reducible refine (HF.out _ hbl1).mono ?_); rintro e w2 ⟨v2, rfl, ⟨bb2, cap2, rfl, hbb3, hbb4, hcap2, hrow2⟩, hbl2⟩; refine Hid.out ?_))
  refine Lib.hid ?_
  have hbw : Below w.heap.size w w2 := hbl1.trans (hbl2.mono hbl1.size)
  have HR := Lib.hid (And.intro (hrow.below hbl2 (Nat.le_refl _) hbb2) hrow2)
  have hbb5 : bb < w2.heap.size := Nat.lt_of_lt_of_le hbb2 hbl2.size
  have H18' : Hid (∀ wx, Below w2.heap.size w2 wx → Calls Tryz.prog 18 #[.slice (some ⟨bb, 0, none⟩) cs.length cap, .slice (some ⟨bb2, 0, none⟩) cs.length cap2] wx fun e w' => e = .returned (.bool true) ∧ Below w2.heap.size w2 w') := Lib.hid fun wx hb => by
    refine (H18.out _ _ _ _ _ _ wx (HR.out.1.below hb (Nat.le_refl _) hbb5) (HR.out.2.below hb (Nat.le_refl _) hbb4)).mono ?_
    rintro e w' ⟨rfl, hb2⟩
    exact ⟨rfl, hb.trans (hb2.mono hb.size)⟩
  have H19' : Hid (∀ wx, Below w2.heap.size w2 wx → Calls Tryz.prog 19 #[.slice (some ⟨bb, 0, none⟩) cs.length cap] wx fun e w' => ∃ g2 c2, e = .returned (.slice (some ⟨g2, 0, none⟩) b.length c2) ∧ At w' g2 0 (allBytes cs) ∧ Below w2.heap.size w2 w') := Lib.hid fun wx hb => by
    refine (H19.out _ _ _ wx (HR.out.1.below hb (Nat.le_refl _) hbb5)).mono ?_
    rintro e w' ⟨g2, c2, rfl, hat, hb2⟩
    exact ⟨g2, c2, rfl, hat, hb.trans (hb2.mono hb.size)⟩
  have HA' : Hid (∀ wx, Below w2.heap.size w2 wx → Calls Tryz.prog 9 #[] wx fun e w' => e = .returned (.bool true) ∧ Below w2.heap.size w2 w') := Lib.hid fun wx hb => by
    refine (HA.out wx).mono ?_
    rintro e w' ⟨rfl, hb2⟩
    exact ⟨rfl, hb.trans (hb2.mono hb.size)⟩
  have hcv : ∀ wx, Below w2.heap.size w2 wx → (convert 22 9 (.slice (some ⟨g, o, none⟩) b.length cp)).run Tryz.prog wx = .ok (.string ⟨b.toArray⟩) wx := fun wx hb => HCV.out wx (hbw.trans (hb.mono hbw.size))
  clear hbl1 hbl2 hrow hrow2 e1 e2
  go_wp2
  go_region_held (fun w' => Below w2.heap.size w2 w')
    (first
      | with_reducible assumption
      | exact (Below.refl _ _).drew)
    ((first
      | (go_at_call 9; (with_reducible refine (HA'.out _ (by first | assumption | exact (Below.refl _ _).drew | exact Below.refl _ _)).mono ?_); rintro e w3 ⟨rfl, hb3⟩; have hcv3 := hcv _ hb3)
      | (go_at_call 18; (with_reducible refine (H18'.out _ (by assumption)).mono ?_); rintro e w4 ⟨rfl, hb4⟩; have hcv4 := hcv _ hb4)
      | (go_at_call 19; (with_reducible refine (H19'.out _ (by assumption)).mono ?_); rintro e w5 ⟨g2, c2, rfl, hat, hb5⟩; have hcv5 := hcv _ hb5; have hcw5 := HCW.out g2 c2 _ hat)))
  all_goals
    go_wp2
    go_ret
    exact ⟨rfl, hbw.trans (hb5.mono hbw.size)⟩

set_option maxRecDepth 100000 in
set_option maxHeartbeats 4000000 in
theorem fnMaRaw (HT : AllTrans) (p : Option Addr) (b : List UInt8) (cp : Nat) (hcp : b.length ≤ cp) (w : World) (he : Env w) (hB : BytesAt w p b) :
    Calls Tryz.prog 5 #[.slice p b.length cp] w fun e w' => e = .returned (.bool true) ∧ Below w.heap.size w w' := by
  by_cases h31 : 2147483647 < b.length
  · have e1 : decide (2147483647 < (b.length : Int)) = true := by simp; omega
    clear he hB
    go_enter Tryz.func5, Tryz.ntmps5
    go_wp2
    go_ret
    exact ⟨rfl, Below.refl _ _⟩
  have e1 : decide (2147483647 < (b.length : Int)) = false := by simp; omega
  by_cases h2000 : 2000 < b.length
  · have e2 : decide (2000 < (b.length : Int)) = true := by simp; omega
    have HA := Lib.hid (maAwake w)
    clear he hB
    go_enter Tryz.func5, Tryz.ntmps5
    go_wp2_with (go_at_call 9; (with_reducible refine HA.out.mono ?_); rintro e w5 ⟨rfl, hb5⟩)
    go_ret
    exact ⟨rfl, hb5⟩
  by_cases hrd : ∃ cs, RdOk b cs
  · obtain ⟨cs, hrd⟩ := hrd
    have hb1 : 0 < b.length := by
      have h1 := List.length_pos_iff.2 hrd.2.1
      have := allBytes_len cs
      rw [← hrd.1] at this
      omega
    cases p with
    | none =>
      rw [hB.1 rfl] at hb1
      simp at hb1
    | some a =>
      obtain ⟨g, o, rfl, hat⟩ := at_of_bytes hB hb1
      exact fnMaRaw_yes HT b cs hrd g o cp w he hat hcp (by omega)
  · exact fnMaRaw_no HT p b cp hcp w he hB (by omega) hrd
end Go.Proofs.YtnpcmmjdojdmnaaGreatDoor
namespace Go.Proofs.YtnpcmmjdojdmnaaGreatDoor
open Go Go.ChangeShapes Go.WideShapes Go.ChangeAt Go.WideElems Go.RowKit

set_option maxRecDepth 100000 in
set_option maxHeartbeats 4000000 in
theorem liftedMaRaw (os : Os) (started : os.Started) (H : Type) (enc : TypeId × Value → H) :
    ReturnsInHanded {} Tryz.checked os 5 .any (fun w args => (Rows.fnMaRawSpec.pre enc Tryz.prog Tryz.f5 [] false w args ∧ laidMetH Tryz.prog laidO w) ∧ sizedMet enc Tryz.prog Tryz.f5 (OpenSpec.ofChange Rows.fnMaRawSpec) false w args)
      (Rows.fnMaRawSpec.post enc Tryz.prog Tryz.f5 false true false false) := by
  refine returnsInHanded_of_change_and (C := Tryz.checked) (X := fun w _ => laidMetH Tryz.prog laidO w) (fun _ _ _ hh h => h.of_heap hh) ownN started (by kernel_rfl) Tryz.func5
    (ChangeSpec.witness_shaped (enc := enc) (C := Tryz.checked) (os := os) (X := fun w _ => laidMetH Tryz.prog laidO w) false (World.laidAll Tryz.prog os laidO) #[.slice none 0 0] 8 (World.laidAll_os _ _ _)
      (World.shaped_of_ZipB (by kernel_rfl) (by kernel_rfl)) (by kernel_rfl) (by kernel_rfl) (by kernel_rfl)
      (by rw [MakeChecks.laidMetH_plain _ _ _ (by kernel_rfl)]; exact laidMet_laidAll _ (laidO_fits os) (laidO_ifaces os))) ?_
  intro W base args ds gs before hval0 hW a1 a2 a3 a4
  have hval : ∀ (j : Nat) t v, Tryz.f5.params[j]? = some t → args[j]? = some v → Value.okWide Tryz.prog W .any base t v := hval0
  have hW' := hW
  obtain ⟨p, q, hA0, hV, rfl, hfz, hnd⟩ := hW
  have hA : DataW.TrodAll enc Tryz.prog W 0 (fun _ => true) true Tryz.f5.params.toList args.toList ds p := hA0
  rw [Tryz.params5] at hA hval
  obtain ⟨v0, d0, rfl, rfl, h0⟩ := trodAll_one hA
  obtain ⟨rfl, rfl⟩ := trodVars_none hV
  have h0k := h0
  obtain ⟨pa, l, cp, rfl, hcp, hb0⟩ := open_bytes (hval 0 22 v0 rfl rfl) h0
  clear hA0 hval0 h0
  simp only [List.append_nil] at hW'
  have hlt : ∀ x ∈ p, x.block < W.heap.size := fun x hx => by simpa using hW'.lt x hx
  refine (fnMaRaw allTrans pa l cp hcp W (envO (by first | exact a1 | exact a2 | exact a3 | exact a4)) hb0).mono fun e W' ⟨he, hnx⟩ => ?_
  subst he
  refine ⟨_, rfl, _, _, _, [], _, [], hW', trodAll_mk1 (shut_bool Tryz.underlying4 _), trodAll_mk1 (Below.trod laidOutN (by kernel_rfl) (of_decide_eq_true (by kernel_rfl)) h0k hnx hlt), rfl, hnx.frame _, fun h => by cases h⟩
end Go.Proofs.YtnpcmmjdojdmnaaGreatDoor
