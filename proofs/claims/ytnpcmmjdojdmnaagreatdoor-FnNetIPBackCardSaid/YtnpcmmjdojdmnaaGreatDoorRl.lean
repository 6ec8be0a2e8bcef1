/- laws.netAlive is true. MaAlike at single components; laws.FnNetIPBack answers true. laws.FnNetIPBack answers true. -/
import Derived.Test.YtnpcmmjdojdmnaaGreatDoorRk
import Derived.Lib.QuietBelow
namespace Go.Proofs.YtnpcmmjdojdmnaaGreatDoor
open Go Go.RowKit Go.Sort

/-- The two components that netAlive asks about. -/
abbrev two : List (Int × List UInt8) := [(4, [127, 0, 0, 1]), (273, [4, 210])]
theorem two_known : ∀ x ∈ two, known x.1 = true ∧ x.2.length ≤ 1000 := by
  intro x hx
  simp at hx
  rcases hx with rfl | rfl
  · exact ⟨by decide, by decide⟩
  · exact ⟨by decide, by decide⟩

theorem IRow.below {w w' : World} {g o B : Nat} {cs : List (Int × List UInt8)} (h : IRow w g o cs) (hb : Below B w w') (hg : g < B) (hB : w.heap.size ≤ B) : IRow w' g o cs := fun k hk => by
  obtain ⟨h1, p, cpl, h2, h3⟩ := h k hk
  exact ⟨(hb.cell (p := ⟨g, _, none⟩) hg).trans h1, p, cpl, (hb.cell (p := ⟨g, _, none⟩) hg).trans h2, h3.below hb (fun a ha hne => Nat.lt_of_lt_of_le (h3.lt a ha hne) hB)⟩

set_option maxRecDepth 100000 in
set_option maxHeartbeats 4000000 in
theorem maTwo (w : World) : Calls Tryz.prog 42 #[] w fun e w' => ∃ b, e = .returned (.slice (some ⟨b, 0, none⟩) 2 2) ∧ w.heap.size ≤ b ∧ b < w'.heap.size ∧ IRow w' b 0 two ∧ Below w.heap.size w w' := by
  go_enter Tryz.func42, Tryz.ntmps42
  go_wp2
  go_ret
  refine ⟨_, rfl, by omega, by simp, ?_, (((Below.refl _ _).alloc (Nat.le_refl _) _).alloc (by simp) _).alloc (by simp; omega) _⟩
  intro k hk
  have h0 : At (((w.alloc (.cells #[.int .u8 127, .int .u8 0, .int .u8 0, .int .u8 1] 5)).alloc (.cells #[.int .u8 4, .int .u8 210] 5)).alloc (.cells #[.int .i64 4, .slice (some ⟨w.heap.size, 0, none⟩) 4 4, .int .i64 273, .slice (some ⟨w.heap.size + 1, 0, none⟩) 2 2] 24)) w.heap.size 0 [127, 0, 0, 1] := by
    intro j hj
    simp at hj
    match j, hj with
    | 0, _ => simp [go_sem]
    | 1, _ => simp [go_sem]
    | 2, _ => simp [go_sem]
    | 3, _ => simp [go_sem]
  have h1 : At (((w.alloc (.cells #[.int .u8 127, .int .u8 0, .int .u8 0, .int .u8 1] 5)).alloc (.cells #[.int .u8 4, .int .u8 210] 5)).alloc (.cells #[.int .i64 4, .slice (some ⟨w.heap.size, 0, none⟩) 4 4, .int .i64 273, .slice (some ⟨w.heap.size + 1, 0, none⟩) 2 2] 24)) (w.heap.size + 1) 0 [4, 210] := by
    intro j hj
    simp at hj
    match j, hj with
    | 0, _ => simp [go_sem]
    | 1, _ => simp [go_sem]
  simp at hk
  match k, hk with
  | 0, _ => exact ⟨by simp [go_sem], some ⟨w.heap.size, 0, none⟩, 4, by simp [go_sem], h0.bytes⟩
  | 1, _ => exact ⟨by simp [go_sem], some ⟨w.heap.size + 1, 0, none⟩, 2, by simp [go_sem], h1.bytes⟩

theorem IRow.tail {w : World} {g o : Nat} {x : Int × List UInt8} {cs : List (Int × List UInt8)} (h : IRow w g o (x :: cs)) : IRow w g (o + 2) cs := fun k hk => by
  have := h (k + 1) (by simpa using hk)
  rw [show o + (k + 1) * 2 = o + 2 + k * 2 by omega] at this
  simpa using this

set_option maxRecDepth 100000 in
set_option maxHeartbeats 8000000 in
theorem netAlive (w : World) : Calls Tryz.prog 21 #[] w fun e w' => e = .returned (.bool true) ∧ Below w.heap.size w w' := by
  have H42 := Lib.hid (maTwo w)
  have H23 : Hid (∀ b cp wx, IRow wx b 0 two → Calls Tryz.prog 23 #[.slice (some ⟨b, 0, none⟩) 2 cp] wx fun e w' => ∃ b cpb, e = .returned (.tuple #[.slice (some ⟨b, 0, none⟩) 4 cpb, .bool true]) ∧ wx.heap.size ≤ b ∧ b < w'.heap.size ∧ 4 ≤ cpb ∧ At w' b 0 [127, 0, 0, 1] ∧ Below wx.heap.size wx w') :=
    Lib.hid fun b cp wx h => netToIP 4 [127, 0, 0, 1] [(273, [4, 210])] (Or.inl rfl) two_known (by decide) b 0 cp wx h
  have HY : Hid (∀ b cp wx, IRow wx b 0 two → Calls Tryz.prog 43 #[.int .i64 1, .slice (some ⟨b, 0, none⟩) 2 cp] wx fun e w' => e = .returned (.bool true) ∧ Below wx.heap.size wx w') :=
    Lib.hid fun b cp wx h => netAsk_1 two (by simp) two_known (by decide) b 0 cp true wx h (fun b' cap wy hcap hm => loopYes b' 0 2 cap [127, 0, 0, 1] _ rfl (Or.inr rfl) hcap wy hm)
  have HN : Hid (∀ b cp wx, IRow wx b 2 [(273, [4, 210])] → Calls Tryz.prog 43 #[.int .i64 1, .slice (some ⟨b, 2, none⟩) 1 cp] wx fun e w' => e = .returned (.bool false) ∧ Below wx.heap.size wx w') :=
    Lib.hid fun b cp wx h => netAsk_1 [(273, [4, 210])] (by simp) (fun x hx => two_known x (List.mem_cons_of_mem _ hx)) (by decide) b 2 cp false wx h (fun b' cap wy hcap hm => by
      obtain ⟨q, _, h1, _, h3⟩ := hm 0 (by simp)
      obtain ⟨_, _, _, _, _, p1, _⟩ := (h3 : ProtoAt 0 wy q 273)
      exact loopNo b' 0 1 cap q 273 (Or.inl rfl) hcap wy (by simpa using h1) p1 (by decide) (by decide) (by decide))
  have HW : Hid (∀ b cp wx, IRow wx b 0 two → Calls Tryz.prog 43 #[.int .i64 0, .slice (some ⟨b, 0, none⟩) 2 cp] wx fun e w' => e = .returned (.bool true) ∧ Below wx.heap.size wx w') :=
    Lib.hid fun b cp wx h => netAsk_0 two (by simp) two_known (by decide) b 0 cp true wx h (fun b' cap wy hcap hm => thinWaist b' 0 cap hcap [127, 0, 0, 1] [4, 210] wy hm)
  have HI : Hid (∀ b cp wx, b < wx.heap.size → At wx b 0 [127, 0, 0, 1] → Calls Tryz.prog 41 #[.slice (some ⟨b, 0, none⟩) 4 cp, .int .i64 32, .slice (some ⟨wx.heap.size, 0, none⟩) 4 4] (wx.alloc (.cells #[.int .u8 127, .int .u8 0, .int .u8 0, .int .u8 1] 5)) fun e w' => e = .returned (.bool true) ∧ w' = wx.alloc (.cells #[.int .u8 127, .int .u8 0, .int .u8 0, .int .u8 1] 5)) :=
    Lib.hid fun b cp wx hb h => by
      have h2 : At (wx.alloc (.cells #[.int .u8 127, .int .u8 0, .int .u8 0, .int .u8 1] 5)) wx.heap.size 0 [127, 0, 0, 1] := by
        intro j hj
        simp at hj
        match j, hj with
        | 0, _ => simp [go_sem]
        | 1, _ => simp [go_sem]
        | 2, _ => simp [go_sem]
        | 3, _ => simp [go_sem]
      have := netIn [127, 0, 0, 1] [127, 0, 0, 1] 4 (by decide) (by decide) (by decide) (by decide) b 0 cp wx.heap.size 0 4 _ (h.below ((Below.refl _ _).alloc (Nat.le_refl _) _) hb) h2
      exact this.mono fun e w' ⟨h1, h2⟩ => ⟨h1, h2.symm⟩
  go_enter Tryz.func21, Tryz.ntmps21
  go_wp2_with (first
    | (go_at_call 42; (with_reducible refine H42.out.mono ?_); rintro e w2 ⟨b, rfl, k1, k2, hrow, hb2⟩)
    | (go_at_call 23; (with_reducible refine (H23.out _ _ _ hrow).mono ?_); rintro e w3 ⟨b3, cp3, rfl, m1, m2, m3, hat, hb3⟩; have hrow3 := hrow.below hb3 k2 (Nat.le_refl _); refine Hid.out ?_))
  refine Lib.hid ?_
  have HST := Lib.hid (And.intro (And.intro k1 k2) (And.intro hb2 hb3))
  have k3 : b < w3.heap.size := Nat.lt_of_lt_of_le k2 hb3.size
  clear hrow hb2 hb3
  go_wp2_with (go_at_call 43; (with_reducible refine (HY.out _ _ _ hrow3).mono ?_); rintro e w4 ⟨rfl, hb4⟩; refine Hid.out ?_)
  refine Lib.hid ?_
  have hrow4 := hrow3.below hb4 k3 (Nat.le_refl _)
  have k4 : b < w4.heap.size := Nat.lt_of_lt_of_le k3 hb4.size
  have hat4 := hat.below hb4 m2
  have m4 : b3 < w4.heap.size := Nat.lt_of_lt_of_le m2 hb4.size
  have HB4 := Lib.hid hb4
  have hrt := hrow4.tail
  clear hb4 hrow3 hat
  go_wp2_with (go_at_call 43; (with_reducible refine (HN.out _ _ _ hrt).mono ?_); rintro e w5 ⟨rfl, hb5⟩; refine Hid.out ?_)
  refine Lib.hid ?_
  have hrow5 := hrow4.below hb5 k4 (Nat.le_refl _)
  have hat5 := hat4.below hb5 m4
  have m5 : b3 < w5.heap.size := Nat.lt_of_lt_of_le m4 hb5.size
  have HB5 := Lib.hid hb5
  clear hb5 hrow4 hat4 hrt
  go_wp2_with (go_at_call 43; (with_reducible refine (HW.out _ _ _ hrow5).mono ?_); rintro e w6 ⟨rfl, hb6⟩; refine Hid.out ?_)
  refine Lib.hid ?_
  have hat6 := hat5.below hb6 m5
  have m6 : b3 < w6.heap.size := Nat.lt_of_lt_of_le m5 hb6.size
  have HB6 := Lib.hid hb6
  clear hb6 hrow5 hat5
  go_wp2_with (go_at_call 41; (with_reducible refine (HI.out _ _ _ m6 hat6).mono ?_); rintro e w7 ⟨rfl, rfl⟩)
  go_ret
  obtain ⟨⟨k1, k2⟩, hb2, hb3⟩ := HST.out
  have s2 := hb2.size
  have s3 := hb3.size
  have s4 := HB4.out.size
  have s5 := HB5.out.size
  have s6 := HB6.out.size
  exact ⟨rfl, (hb2.trans ((hb3.mono s2).trans ((HB4.out.mono (by omega)).trans ((HB5.out.mono (by omega)).trans (HB6.out.mono (by omega)))))).alloc (by omega) _⟩
end Go.Proofs.YtnpcmmjdojdmnaaGreatDoor
namespace Go.Proofs.YtnpcmmjdojdmnaaGreatDoor
open Go Go.RowKit Go.Sort

set_option maxRecDepth 100000 in
set_option maxHeartbeats 4000000 in
theorem maAlike1 {B1 B2 : Nat} {w : World} {v1 v2 : Value} {c : Int} {l : List UInt8} (h1 : OneC B1 w v1 c l) (h2 : OneC B2 w v2 c l) :
    Calls Tryz.prog 18 #[v1, v2] w fun e w' => e = .returned (.bool true) ∧ Below w.heap.size w w' := by
  obtain ⟨b, cap, g, cp, rfl, h2', h3, h4, h5, h6, h7, h8, h9, h10⟩ := h1.ex
  obtain ⟨b', cap', g', cp', rfl, k2, k3, k4, k5, k6, k7, k8, k9, k10⟩ := h2.ex
  have c0 := fun d os => cell_regrown h5 d os
  have c1 := fun d os => cell_regrown h6 d os
  have d0 := fun d os => cell_regrown k5 d os
  have d1 := fun d os => cell_regrown k6 d os
  have HS : Hid (∀ d os, Calls Tryz.prog 11 #[.agg #[.int .i64 c, .slice (some ⟨g, 0, none⟩) l.length cp], .agg #[.int .i64 c, .slice (some ⟨g', 0, none⟩) l.length cp']] (grow (redrawn w d) os) fun e w' => e = .returned (.bool true) ∧ Below (grow (redrawn w d) os).heap.size (grow (redrawn w d) os) w') := Lib.hid fun d os => by
    have hb := below_regrown w d os
    have := maSame c c (some ⟨g, 0, none⟩) (some ⟨g', 0, none⟩) l l cp cp' (grow (redrawn w d) os) (h10.below hb h8).bytes (k10.below hb k8).bytes
    simpa using this
  have hm : Tryz.prog.follows .mixedOrders = true := by kernel_rfl
  clear h1 h2 h5 h6 k5 k6 h10 k10
  go_enter Tryz.func18, Tryz.ntmps18
  go_wp2
  refine wp_loop_rounds 2 ?_
  rw [rounds_succ]
  go_wp2
  refine wp_region_quiet_below hm (by kernel_rfl) ?_
  repeat (quiet_step ((go_at_call 11; with_reducible exact Calls.regrown_of (HS.out _ _))))
  refine wpQuiet_nil ?_
  intro _ hw'
  obtain ⟨⟨dq, osq⟩, hw''⟩ := hw'
  subst hw''
  go_wp2
  rw [rounds_succ]
  go_wp2
  go_ret
  exact ⟨rfl, below_regrown w dq osq⟩

theorem OneC.irow {B : Nat} {w : World} {v : Value} {c : Int} {l : List UInt8} (h : OneC B w v c l) : ∃ b cap, v = .slice (some ⟨b, 0, none⟩) 1 cap ∧ b < w.heap.size ∧ IRow w b 0 [(c, l)] := by
  obtain ⟨b, cap, g, cp, h1, h2, h3, h4, h5, h6, h7, h8, h9, h10⟩ := h.ex
  refine ⟨b, cap, h1, h3, fun k hk => ?_⟩
  simp at hk
  subst hk
  exact ⟨h5, some ⟨g, 0, none⟩, cp, h6, h10.bytes⟩

set_option maxRecDepth 100000 in
set_option maxHeartbeats 8000000 in
theorem netIPBack_yes {c : Int} {l : List UInt8} (hi : IsIP c l) (g o cp : Nat) (hcp : l.length ≤ cp) (w : World) (ht : Tab w) (h : At w g o l) :
    Calls Tryz.prog 6 #[.slice (some ⟨g, o, none⟩) l.length cp] w fun e w' => e = .returned (.bool true) ∧ Below w.heap.size w w' := by
  have hln := hi.len
  have hg := h.lt (by omega)
  have e1 : decide (2147483647 < (l.length : Int)) = false := by simp; omega
  have HM : Hid (Calls Tryz.prog 20 #[.slice (some ⟨g, o, none⟩) l.length cp] w fun e w' => e = .returned (.bool false) ∧ Below w.heap.size w w') := Lib.hid (by
    rcases hi with ⟨rfl, hl⟩ | ⟨rfl, hl, hm⟩
    · rw [hl]
      go_enter Tryz.func20, Tryz.ntmps20
      go_wp2
      go_ret
      exact ⟨rfl, Below.refl _ _⟩
    · rw [hl]
      have := netMapped16 l hl g o cp w h
      rwa [hm] at this)
  have H22 := Lib.hid (fun wx (hx : Below w.heap.size w wx) => netFromIP hi g o cp hcp wx (ht.below hx (Nat.le_refl _)) (h.below hx hg))
  have hc : c = 4 ∨ c = 41 := by rcases hi with ⟨rfl, _⟩ | ⟨rfl, _⟩ <;> simp
  have H23 : Hid (∀ b cap wx, IRow wx b 0 [(c, l)] → Calls Tryz.prog 23 #[.slice (some ⟨b, 0, none⟩) 1 cap] wx fun e w' => ∃ b cpb, e = .returned (.tuple #[.slice (some ⟨b, 0, none⟩) l.length cpb, .bool true]) ∧ wx.heap.size ≤ b ∧ b < w'.heap.size ∧ l.length ≤ cpb ∧ At w' b 0 l ∧ Below wx.heap.size wx w') :=
    Lib.hid (fun b cap wx hx => netToIP c l [] hc (by intro x hx; simp at hx; subst hx; exact ⟨hi.known, by show l.length ≤ 1000; omega⟩) (by simp) b 0 cap wx hx)
  have H22b := Lib.hid (fun b cpb wx (hx : Below w.heap.size w wx) (hcp : l.length ≤ cpb) (hat : At wx b 0 l) => netFromIP hi b 0 cpb hcp wx (ht.below hx (Nat.le_refl _)) hat)
  have HA := Lib.hid (fun wx => netAlive wx)
  have HAT := Lib.hid h
  have hl : l.length = 4 ∨ l.length = 16 := by
    rcases hi with ⟨_, hl⟩ | ⟨_, hl, _⟩
    · exact Or.inl hl
    · exact Or.inr hl
  have HCV : Hid (∀ (wx : World) (b o cpb : Nat), At wx b o l → (convert 22 9 (.slice (some ⟨b, o, none⟩) l.length cpb)).run Tryz.prog wx = .ok (.string ⟨l.toArray⟩) wx) := Lib.hid fun wx b o cpb hx => convert_bytes hx.bytes cpb
  clear h ht hi hc e1
  rcases hl with hl | hl
  all_goals
    rw [hl] at HM H22 H23 H22b HCV
    have HLL := Lib.hid hl
    rw [hl]
    clear hl hcp hln
    go_enter Tryz.func6, Tryz.ntmps6
    go_wp2_with (first
      | (go_at_call 20; (with_reducible refine HM.out.mono ?_); rintro e w2 ⟨rfl, hb2⟩)
      | (go_at_call 22; (with_reducible refine (H22.out _ hb2).mono ?_); rintro e w3 ⟨v, rfl, hone, hb3⟩; refine Hid.out ?_))
    refine Lib.hid ?_
    have hone3 := hone
    obtain ⟨b, cap, rfl, hbb, hrow⟩ := hone3.irow
    have hbw3 : Below w.heap.size w w3 := hb2.trans (hb3.mono hb2.size)
    have HO3 := Lib.hid hone
    clear hone hone3 hb2 hb3
    go_wp2_with (go_at_call 23; (with_reducible refine (H23.out _ _ _ hrow).mono ?_); rintro e w4 ⟨b4, cpb, rfl, k1, k2, k3, hat, hb4⟩; refine Hid.out ?_)
    refine Lib.hid ?_
    have hbw4 : Below w.heap.size w w4 := hbw3.trans (hb4.mono hbw3.size)
    have HO4 := Lib.hid (HO3.out.below hb4 (Nat.le_refl _))
    have HAT4 := Lib.hid hat
    clear hrow hb4 hbw3 HO3
    go_wp2_with (go_at_call 22; (with_reducible refine (H22b.out _ _ _ hbw4 k3 hat).mono ?_); rintro e w5 ⟨v5, rfl, hone5, hb5⟩; refine Hid.out ?_)
    refine Lib.hid ?_
    obtain ⟨b5, cap5, rfl, hbb5, -⟩ := hone5.irow
    have hbw5 : Below w.heap.size w w5 := hbw4.trans (hb5.mono hbw4.size)
    have HO5 := Lib.hid (And.intro (HO4.out.below hb5 (Nat.le_refl _)) hone5)
    have HAT5 := Lib.hid (HAT4.out.below hb5 k2)
    have k5 : b4 < w5.heap.size := Nat.lt_of_lt_of_le k2 hb5.size
    clear hat hone5 hb5 hbw4 HAT4 HO4
    go_wp2_with (go_at_call 21; (with_reducible refine (HA.out _).mono ?_); rintro e w6 ⟨rfl, hb6⟩; refine Hid.out ?_)
    refine Lib.hid ?_
    have hbw6 : Below w.heap.size w w6 := hbw5.trans (hb6.mono hbw5.size)
    have hv1 := HCV.out w6 b4 0 cpb (HAT5.out.below hb6 k5)
    have hv2 := HCV.out w6 g o cp (HAT.out.below hbw6 hg)
    have HAL := Lib.hid (maAlike1 (HO5.out.1.below hb6 (Nat.le_refl _)) (HO5.out.2.below hb6 (Nat.le_refl _)))
    clear hb6 hbw5
    go_wp2_with (go_at_call 18; (with_reducible refine HAL.out.mono ?_); rintro e w7 ⟨rfl, hb7⟩)
    go_ret
    exact ⟨rfl, hbw6.trans (hb7.mono hbw6.size)⟩
end Go.Proofs.YtnpcmmjdojdmnaaGreatDoor
namespace Go.Proofs.YtnpcmmjdojdmnaaGreatDoor
open Go Go.RowKit Go.Sort

theorem bytesAt_at {w : World} {a : Addr} {l : List UInt8} (h : BytesAt w (some a) l) (hl : 0 < l.length) : ∃ g o, a = ⟨g, o, none⟩ ∧ At w g o l := by
  obtain ⟨g, o, spot⟩ := a
  have h0 := h.2 _ rfl 0 hl
  have hs : spot = none := by simpa [Addr.add] using World.cell?_spot h0
  subst hs
  exact ⟨g, o, rfl, fun j hj => by have := h.2 _ rfl j hj; rwa [Addr.add_lit] at this⟩

set_option maxRecDepth 100000 in
set_option maxHeartbeats 4000000 in
theorem fnNetIPBack (p : Option Addr) (l : List UInt8) (cp : Nat) (hcp : l.length ≤ cp) (w : World) (ht : Tab w) (hB : BytesAt w p l) :
    Calls Tryz.prog 6 #[.slice p l.length cp] w fun e w' => e = .returned (.bool true) ∧ Below w.heap.size w w' := by
  have HA := Lib.hid (fun wx => netAlive wx)
  by_cases h4 : l.length = 4
  · cases p with
    | none => have := hB.1 rfl; rw [this] at h4; cases h4
    | some a =>
      obtain ⟨g, o, rfl, hat⟩ := bytesAt_at hB (by omega)
      exact netIPBack_yes (Or.inl ⟨rfl, h4⟩) g o cp hcp w ht hat
  by_cases h16 : l.length = 16
  · cases p with
    | none => have := hB.1 rfl; rw [this] at h16; cases h16
    | some a =>
      obtain ⟨g, o, rfl, hat⟩ := bytesAt_at hB (by omega)
      cases hm : mapped l with
      | false => exact netIPBack_yes (Or.inr ⟨rfl, h16, hm⟩) g o cp hcp w ht hat
      | true =>
        have HM := Lib.hid (netMapped16 l h16 g o cp w hat)
        rw [hm] at HM
        rw [h16]
        clear hat hB hm h4 h16 hcp ht
        go_enter Tryz.func6, Tryz.ntmps6
        go_wp2_with (first
          | (go_at_call 20; (with_reducible refine HM.out.mono ?_); rintro e w2 ⟨rfl, hb2⟩)
          | (go_at_call 21; (with_reducible refine (HA.out _).mono ?_); rintro e w3 ⟨rfl, hb3⟩))
        go_ret
        exact ⟨rfl, hb2.trans (hb3.mono hb2.size)⟩
  · have e1 : ((l.length : Int) == 4) = false := by rw [beq_eq_false_iff_ne]; omega
    have e2 : ((l.length : Int) == 16) = false := by rw [beq_eq_false_iff_ne]; omega
    clear hB h4 h16 hcp ht
    by_cases hbig : 2147483647 < l.length
    · go_enter Tryz.func6, Tryz.ntmps6
      go_wp2
      go_ret
      exact ⟨rfl, Below.refl _ _⟩
    · have e3 : ((l.length : Int) != 4) = true := by rw [bne, e1]; rfl
      have e4 : ((l.length : Int) != 16) = true := by rw [bne, e2]; rfl
      have e5 : decide (2147483647 < (l.length : Int)) = false := by simp; omega
      go_enter Tryz.func6, Tryz.ntmps6
      go_wp2_with (go_at_call 21; (with_reducible refine (HA.out _).mono ?_); rintro e w3 ⟨rfl, hb3⟩)
      go_ret
      exact ⟨rfl, hb3⟩
end Go.Proofs.YtnpcmmjdojdmnaaGreatDoor
