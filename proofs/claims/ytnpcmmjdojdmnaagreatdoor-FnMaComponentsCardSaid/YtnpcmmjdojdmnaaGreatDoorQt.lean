/- laws.maAwake: true. laws.FnMaComponents answers true. -/
import Derived.Test.YtnpcmmjdojdmnaaGreatDoorQs
import Derived.Test.YtnpcmmjdojdmnaaGreatDoorQk
import Derived.Test.YtnpcmmjdojdmnaaGreatDoorQl
namespace Go.Proofs.YtnpcmmjdojdmnaaGreatDoor
open Go Go.RowKit

theorem awake_text (w : World) : Calls Tryz.prog 27 #[.string ⟨#[47, 105, 112, 52, 47, 49, 46, 50, 46, 51, 46, 52, 47, 116, 99, 112, 47, 53]⟩] w fun e w' => ∃ g o cp, e = .returned (.tuple #[.slice (some ⟨g, o, none⟩) 8 cp, .bool true]) ∧ At w' g o [4, 1, 2, 3, 4, 6, 0, 5] ∧ Below w.heap.size w w' := by
  have h := maTextBytes awakeText _ [(4, [1, 2, 3, 4]), (6, [0, 5])] awake_pieces awake_feeds (by simp) (by decide) (by decide) (by decide) (by rw [awake_bytes]; decide) (by simp) (by rw [awake_bytes]; decide) (by decide) (by
    intro x hx
    simp only [List.mem_cons, List.not_mem_nil, or_false] at hx
    rcases hx with rfl | rfl
    · exact fixed_ip4
    · exact fixed_tcp) w
  rw [awake_bytes] at h
  exact h

set_option maxRecDepth 100000 in
set_option maxHeartbeats 4000000 in
theorem maAwake (w : World) : Calls Tryz.prog 9 #[] w fun e w' => e = .returned (.bool true) ∧ Below w.heap.size w w' := by
  have H := Lib.hid (awake_text w)
  go_enter Tryz.func9, Tryz.ntmps9
  go_wp2_with (go_at_call 27; (with_reducible refine H.out.mono ?_); rintro e w2 ⟨g, o, cp, rfl, hat, hb⟩; have hcv : (convert 22 9 (.slice (some ⟨g, o, none⟩) 8 cp)).run Tryz.prog w2 = .ok (.string ⟨#[4, 1, 2, 3, 4, 6, 0, 5]⟩) w2 := convert_bytes hat.bytes cp)
  go_ret
  exact ⟨rfl, hb⟩
end Go.Proofs.YtnpcmmjdojdmnaaGreatDoor
namespace Go.Proofs.YtnpcmmjdojdmnaaGreatDoor
open Go Go.RowKit

theorem simple_known {c : Int} {l : List UInt8} (h : simpleB c l = true) : known c = true := by
  unfold simpleB at h
  cases hk : known c with
  | true => rfl
  | false => rw [hk] at h; simp at h

theorem order_cases (a b : List UInt8) : ((a == b) = true ∧ Lib.compareBytes a b = 0) ∨ ((a == b) = false ∧ Lib.compareBytes a b = -1) ∨ ((a == b) = false ∧ Lib.compareBytes a b = 1) := by
  have hz := compareBytes_zero a b
  cases h : (a == b) with
  | true => exact Or.inl ⟨rfl, hz.2 (by simpa using h)⟩
  | false =>
    have hne : a ≠ b := by simpa using h
    rcases compareBytes_range a b with h1 | h1 | h1
    · exact Or.inr (Or.inl ⟨rfl, h1⟩)
    · exact absurd (hz.1 h1) hne
    · exact Or.inr (Or.inr ⟨rfl, h1⟩)

set_option maxRecDepth 100000 in
set_option maxHeartbeats 4000000 in
theorem fnMaComponents (c d : Int) (p q : Option Addr) (l m : List UInt8) (cp cq : Nat) (w : World) (hp : BytesAt w p l) (hq : BytesAt w q m) :
    Calls Tryz.prog 3 #[.agg #[.int .i64 c, .slice p l.length cp], .agg #[.int .i64 d, .slice q m.length cq]] w fun e w' => e = .returned (.bool true) ∧ Below w.heap.size w w' := by
  have hT : Two w (.int .i64 c) (.slice p l.length cp) (.int .i64 d) (.slice q m.length cq) ((w.alloc (.cells #[.int .i64 c, .slice p l.length cp] 24)).alloc (.cells #[.int .i64 d, .slice q m.length cq] 24)) :=
    ⟨by simp [go_sem], by simp [go_sem], by simp [go_sem], by simp [go_sem], (((Below.refl _ _).alloc (Nat.le_refl _) _).alloc (by simp) _), by simp⟩
  have HT := Lib.hid hT; clear hT
  have HP := Lib.hid (And.intro hp hq); clear hp hq
  by_cases h1 : l.length ≤ 2147483647
  · have e1 : decide (l.length ≤ 2147483647) = true := by simpa using h1
    by_cases h2 : m.length ≤ 2147483647
    · have e2 : decide (m.length ≤ 2147483647) = true := by simpa using h2
      cases e3 : simpleB c l with
      | false =>
        go_enter Tryz.func3, Tryz.ntmps3
        go_wp2_with (first
          | (go_at_call 7; (with_reducible refine (zzFits _ _ _ _ _).mono ?_); rintro e wx ⟨rfl, hb⟩; have HT := Lib.hid (Two.step HT.out hb HT.out.2.2.2.2.2); have k0 := HT.out.1; have k1 := HT.out.2.1; have k2 := HT.out.2.2.1; have k3 := HT.out.2.2.2.1)
          | (go_at_call 8; (with_reducible refine (maSimple c p l cp _ (HP.out.1.below HT.out.2.2.2.2.1 HP.out.1.lt) h1).mono ?_); rintro e wx ⟨rfl, hb⟩; have HT := Lib.hid (Two.step HT.out hb HT.out.2.2.2.2.2); have k0 := HT.out.1; have k1 := HT.out.2.1; have k2 := HT.out.2.2.1; have k3 := HT.out.2.2.2.1)
          | (go_at_call 9; (with_reducible refine (maAwake _).mono ?_); rintro e wx ⟨rfl, hb⟩; have HT := Lib.hid (Two.step HT.out hb HT.out.2.2.2.2.2); have k0 := HT.out.1; have k1 := HT.out.2.1; have k2 := HT.out.2.2.1; have k3 := HT.out.2.2.2.1))
        go_ret
        exact ⟨rfl, HT.out.2.2.2.2.1⟩
      | true =>
        cases e4 : simpleB d m with
        | false =>
          go_enter Tryz.func3, Tryz.ntmps3
          go_wp2_with (first
            | (go_at_call 7; (with_reducible refine (zzFits _ _ _ _ _).mono ?_); rintro e wx ⟨rfl, hb⟩; have HT := Lib.hid (Two.step HT.out hb HT.out.2.2.2.2.2); have k0 := HT.out.1; have k1 := HT.out.2.1; have k2 := HT.out.2.2.1; have k3 := HT.out.2.2.2.1)
            | (go_at_call 8; (with_reducible refine (maSimple c p l cp _ (HP.out.1.below HT.out.2.2.2.2.1 HP.out.1.lt) h1).mono ?_); rintro e wx ⟨rfl, hb⟩; have HT := Lib.hid (Two.step HT.out hb HT.out.2.2.2.2.2); have k0 := HT.out.1; have k1 := HT.out.2.1; have k2 := HT.out.2.2.1; have k3 := HT.out.2.2.2.1)
            | (go_at_call 8; (with_reducible refine (maSimple d q m cq _ (HP.out.2.below HT.out.2.2.2.2.1 HP.out.2.lt) h2).mono ?_); rintro e wx ⟨rfl, hb⟩; have HT := Lib.hid (Two.step HT.out hb HT.out.2.2.2.2.2); have k0 := HT.out.1; have k1 := HT.out.2.1; have k2 := HT.out.2.2.1; have k3 := HT.out.2.2.2.1)
            | (go_at_call 9; (with_reducible refine (maAwake _).mono ?_); rintro e wx ⟨rfl, hb⟩; have HT := Lib.hid (Two.step HT.out hb HT.out.2.2.2.2.2); have k0 := HT.out.1; have k1 := HT.out.2.1; have k2 := HT.out.2.2.1; have k3 := HT.out.2.2.2.1))
          go_ret
          exact ⟨rfl, HT.out.2.2.2.2.1⟩
        | true =>
          have hkc := simple_known e3
          have hkd := simple_known e4
          have H10 : ∀ (wx : World), BytesAt wx p l → BytesAt wx q m → Calls Tryz.prog 10 #[.agg #[.int .i64 c, .slice p l.length cp], .agg #[.int .i64 d, .slice q m.length cq]] wx fun e w' =>
              e = .returned (.tuple #[.bool (compBytes c l == compBytes d m), .int .i64 (Lib.compareBytes (compBytes c l) (compBytes d m))]) ∧ Below wx.heap.size wx w' := fun wx hp hq => maComponents c d hkc hkd p q l m cp cq wx hp h1 hq h2
          have H10' : ∀ (wx : World), BytesAt wx p l → BytesAt wx q m → Calls Tryz.prog 10 #[.agg #[.int .i64 d, .slice q m.length cq], .agg #[.int .i64 c, .slice p l.length cp]] wx fun e w' =>
              e = .returned (.tuple #[.bool (compBytes c l == compBytes d m), .int .i64 (- Lib.compareBytes (compBytes c l) (compBytes d m))]) ∧ Below wx.heap.size wx w' := fun wx hp hq => by
            have := maComponents d c hkd hkc q p m l cq cp wx hq h2 hp h1
            rwa [law_back, compareBytes_swap] at this
          have H11' : ∀ (wx : World), BytesAt wx p l → BytesAt wx q m → Calls Tryz.prog 11 #[.agg #[.int .i64 c, .slice p l.length cp], .agg #[.int .i64 d, .slice q m.length cq]] wx fun e w' => e = .returned (.bool (compBytes c l == compBytes d m)) ∧ Below wx.heap.size wx w' := fun wx hp hq => by
            have := maSame c d p q l m cp cq wx hp hq
            rwa [← law_same hkc hkd] at this
          have hor := order_cases (compBytes c l) (compBytes d m)
          generalize (compBytes c l == compBytes d m) = X at *
          generalize Lib.compareBytes (compBytes c l) (compBytes d m) = Y at *
          clear hkc hkd
          rcases hor with ⟨rfl, rfl⟩ | ⟨rfl, rfl⟩ | ⟨rfl, rfl⟩
          · have H10a := Lib.hid H10; have H10b : Hid (∀ (wx : World), BytesAt wx p l → BytesAt wx q m → Calls Tryz.prog 10 #[.agg #[.int .i64 d, .slice q m.length cq], .agg #[.int .i64 c, .slice p l.length cp]] wx fun e w' => e = .returned (.tuple #[.bool true, .int .i64 (0)]) ∧ Below wx.heap.size wx w') := Lib.hid H10'
            have H11 := Lib.hid H11'
            clear H10 H10' H11'
            go_enter Tryz.func3, Tryz.ntmps3
            go_wp2_with (first
              | (go_at_call 7; (with_reducible refine (zzFits _ _ _ _ _).mono ?_); rintro e wx ⟨rfl, hb⟩; have HT := Lib.hid (Two.step HT.out hb HT.out.2.2.2.2.2); have k0 := HT.out.1; have k1 := HT.out.2.1; have k2 := HT.out.2.2.1; have k3 := HT.out.2.2.2.1)
              | (go_at_call 8; (with_reducible refine (maSimple c p l cp _ (HP.out.1.below HT.out.2.2.2.2.1 HP.out.1.lt) h1).mono ?_); rintro e wx ⟨rfl, hb⟩; have HT := Lib.hid (Two.step HT.out hb HT.out.2.2.2.2.2); have k0 := HT.out.1; have k1 := HT.out.2.1; have k2 := HT.out.2.2.1; have k3 := HT.out.2.2.2.1)
              | (go_at_call 8; (with_reducible refine (maSimple d q m cq _ (HP.out.2.below HT.out.2.2.2.2.1 HP.out.2.lt) h2).mono ?_); rintro e wx ⟨rfl, hb⟩; have HT := Lib.hid (Two.step HT.out hb HT.out.2.2.2.2.2); have k0 := HT.out.1; have k1 := HT.out.2.1; have k2 := HT.out.2.2.1; have k3 := HT.out.2.2.2.1)
              | (go_at_call 9; (with_reducible refine (maAwake _).mono ?_); rintro e wx ⟨rfl, hb⟩; have HT := Lib.hid (Two.step HT.out hb HT.out.2.2.2.2.2); have k0 := HT.out.1; have k1 := HT.out.2.1; have k2 := HT.out.2.2.1; have k3 := HT.out.2.2.2.1)
              | (go_at_call 10; (with_reducible refine (H10a.out _ (HP.out.1.below HT.out.2.2.2.2.1 HP.out.1.lt) (HP.out.2.below HT.out.2.2.2.2.1 HP.out.2.lt)).mono ?_); rintro e wx ⟨rfl, hb⟩; have HT := Lib.hid (Two.step HT.out hb HT.out.2.2.2.2.2); have k0 := HT.out.1; have k1 := HT.out.2.1; have k2 := HT.out.2.2.1; have k3 := HT.out.2.2.2.1)
              | (go_at_call 10; (with_reducible refine (H10b.out _ (HP.out.1.below HT.out.2.2.2.2.1 HP.out.1.lt) (HP.out.2.below HT.out.2.2.2.2.1 HP.out.2.lt)).mono ?_); rintro e wx ⟨rfl, hb⟩; have HT := Lib.hid (Two.step HT.out hb HT.out.2.2.2.2.2); have k0 := HT.out.1; have k1 := HT.out.2.1; have k2 := HT.out.2.2.1; have k3 := HT.out.2.2.2.1)
              | (go_at_call 11; (with_reducible refine (H11.out _ (HP.out.1.below HT.out.2.2.2.2.1 HP.out.1.lt) (HP.out.2.below HT.out.2.2.2.2.1 HP.out.2.lt)).mono ?_); rintro e wx ⟨rfl, hb⟩; have HT := Lib.hid (Two.step HT.out hb HT.out.2.2.2.2.2); have k0 := HT.out.1; have k1 := HT.out.2.1; have k2 := HT.out.2.2.1; have k3 := HT.out.2.2.2.1)
              | (go_at_call 12; (with_reducible refine (sign_of (0) (by decide) _).mono ?_); rintro e wx ⟨rfl, rfl⟩))
            go_ret
            exact ⟨rfl, HT.out.2.2.2.2.1⟩
          · have H10a := Lib.hid H10; have H10b : Hid (∀ (wx : World), BytesAt wx p l → BytesAt wx q m → Calls Tryz.prog 10 #[.agg #[.int .i64 d, .slice q m.length cq], .agg #[.int .i64 c, .slice p l.length cp]] wx fun e w' => e = .returned (.tuple #[.bool false, .int .i64 (1)]) ∧ Below wx.heap.size wx w') := Lib.hid H10'
            have H11 := Lib.hid H11'
            clear H10 H10' H11'
            go_enter Tryz.func3, Tryz.ntmps3
            go_wp2_with (first
              | (go_at_call 7; (with_reducible refine (zzFits _ _ _ _ _).mono ?_); rintro e wx ⟨rfl, hb⟩; have HT := Lib.hid (Two.step HT.out hb HT.out.2.2.2.2.2); have k0 := HT.out.1; have k1 := HT.out.2.1; have k2 := HT.out.2.2.1; have k3 := HT.out.2.2.2.1)
              | (go_at_call 8; (with_reducible refine (maSimple c p l cp _ (HP.out.1.below HT.out.2.2.2.2.1 HP.out.1.lt) h1).mono ?_); rintro e wx ⟨rfl, hb⟩; have HT := Lib.hid (Two.step HT.out hb HT.out.2.2.2.2.2); have k0 := HT.out.1; have k1 := HT.out.2.1; have k2 := HT.out.2.2.1; have k3 := HT.out.2.2.2.1)
              | (go_at_call 8; (with_reducible refine (maSimple d q m cq _ (HP.out.2.below HT.out.2.2.2.2.1 HP.out.2.lt) h2).mono ?_); rintro e wx ⟨rfl, hb⟩; have HT := Lib.hid (Two.step HT.out hb HT.out.2.2.2.2.2); have k0 := HT.out.1; have k1 := HT.out.2.1; have k2 := HT.out.2.2.1; have k3 := HT.out.2.2.2.1)
              | (go_at_call 9; (with_reducible refine (maAwake _).mono ?_); rintro e wx ⟨rfl, hb⟩; have HT := Lib.hid (Two.step HT.out hb HT.out.2.2.2.2.2); have k0 := HT.out.1; have k1 := HT.out.2.1; have k2 := HT.out.2.2.1; have k3 := HT.out.2.2.2.1)
              | (go_at_call 10; (with_reducible refine (H10a.out _ (HP.out.1.below HT.out.2.2.2.2.1 HP.out.1.lt) (HP.out.2.below HT.out.2.2.2.2.1 HP.out.2.lt)).mono ?_); rintro e wx ⟨rfl, hb⟩; have HT := Lib.hid (Two.step HT.out hb HT.out.2.2.2.2.2); have k0 := HT.out.1; have k1 := HT.out.2.1; have k2 := HT.out.2.2.1; have k3 := HT.out.2.2.2.1)
              | (go_at_call 10; (with_reducible refine (H10b.out _ (HP.out.1.below HT.out.2.2.2.2.1 HP.out.1.lt) (HP.out.2.below HT.out.2.2.2.2.1 HP.out.2.lt)).mono ?_); rintro e wx ⟨rfl, hb⟩; have HT := Lib.hid (Two.step HT.out hb HT.out.2.2.2.2.2); have k0 := HT.out.1; have k1 := HT.out.2.1; have k2 := HT.out.2.2.1; have k3 := HT.out.2.2.2.1)
              | (go_at_call 11; (with_reducible refine (H11.out _ (HP.out.1.below HT.out.2.2.2.2.1 HP.out.1.lt) (HP.out.2.below HT.out.2.2.2.2.1 HP.out.2.lt)).mono ?_); rintro e wx ⟨rfl, hb⟩; have HT := Lib.hid (Two.step HT.out hb HT.out.2.2.2.2.2); have k0 := HT.out.1; have k1 := HT.out.2.1; have k2 := HT.out.2.2.1; have k3 := HT.out.2.2.2.1)
              | (go_at_call 12; (with_reducible refine (sign_of (-1) (by decide) _).mono ?_); rintro e wx ⟨rfl, rfl⟩)
              | (go_at_call 12; (with_reducible refine (sign_of (1) (by decide) _).mono ?_); rintro e wx ⟨rfl, rfl⟩))
            go_ret
            exact ⟨rfl, HT.out.2.2.2.2.1⟩
          · have H10a := Lib.hid H10; have H10b : Hid (∀ (wx : World), BytesAt wx p l → BytesAt wx q m → Calls Tryz.prog 10 #[.agg #[.int .i64 d, .slice q m.length cq], .agg #[.int .i64 c, .slice p l.length cp]] wx fun e w' => e = .returned (.tuple #[.bool false, .int .i64 (-1)]) ∧ Below wx.heap.size wx w') := Lib.hid H10'
            have H11 := Lib.hid H11'
            clear H10 H10' H11'
            go_enter Tryz.func3, Tryz.ntmps3
            go_wp2_with (first
              | (go_at_call 7; (with_reducible refine (zzFits _ _ _ _ _).mono ?_); rintro e wx ⟨rfl, hb⟩; have HT := Lib.hid (Two.step HT.out hb HT.out.2.2.2.2.2); have k0 := HT.out.1; have k1 := HT.out.2.1; have k2 := HT.out.2.2.1; have k3 := HT.out.2.2.2.1)
              | (go_at_call 8; (with_reducible refine (maSimple c p l cp _ (HP.out.1.below HT.out.2.2.2.2.1 HP.out.1.lt) h1).mono ?_); rintro e wx ⟨rfl, hb⟩; have HT := Lib.hid (Two.step HT.out hb HT.out.2.2.2.2.2); have k0 := HT.out.1; have k1 := HT.out.2.1; have k2 := HT.out.2.2.1; have k3 := HT.out.2.2.2.1)
              | (go_at_call 8; (with_reducible refine (maSimple d q m cq _ (HP.out.2.below HT.out.2.2.2.2.1 HP.out.2.lt) h2).mono ?_); rintro e wx ⟨rfl, hb⟩; have HT := Lib.hid (Two.step HT.out hb HT.out.2.2.2.2.2); have k0 := HT.out.1; have k1 := HT.out.2.1; have k2 := HT.out.2.2.1; have k3 := HT.out.2.2.2.1)
              | (go_at_call 9; (with_reducible refine (maAwake _).mono ?_); rintro e wx ⟨rfl, hb⟩; have HT := Lib.hid (Two.step HT.out hb HT.out.2.2.2.2.2); have k0 := HT.out.1; have k1 := HT.out.2.1; have k2 := HT.out.2.2.1; have k3 := HT.out.2.2.2.1)
              | (go_at_call 10; (with_reducible refine (H10a.out _ (HP.out.1.below HT.out.2.2.2.2.1 HP.out.1.lt) (HP.out.2.below HT.out.2.2.2.2.1 HP.out.2.lt)).mono ?_); rintro e wx ⟨rfl, hb⟩; have HT := Lib.hid (Two.step HT.out hb HT.out.2.2.2.2.2); have k0 := HT.out.1; have k1 := HT.out.2.1; have k2 := HT.out.2.2.1; have k3 := HT.out.2.2.2.1)
              | (go_at_call 10; (with_reducible refine (H10b.out _ (HP.out.1.below HT.out.2.2.2.2.1 HP.out.1.lt) (HP.out.2.below HT.out.2.2.2.2.1 HP.out.2.lt)).mono ?_); rintro e wx ⟨rfl, hb⟩; have HT := Lib.hid (Two.step HT.out hb HT.out.2.2.2.2.2); have k0 := HT.out.1; have k1 := HT.out.2.1; have k2 := HT.out.2.2.1; have k3 := HT.out.2.2.2.1)
              | (go_at_call 11; (with_reducible refine (H11.out _ (HP.out.1.below HT.out.2.2.2.2.1 HP.out.1.lt) (HP.out.2.below HT.out.2.2.2.2.1 HP.out.2.lt)).mono ?_); rintro e wx ⟨rfl, hb⟩; have HT := Lib.hid (Two.step HT.out hb HT.out.2.2.2.2.2); have k0 := HT.out.1; have k1 := HT.out.2.1; have k2 := HT.out.2.2.1; have k3 := HT.out.2.2.2.1)
              | (go_at_call 12; (with_reducible refine (sign_of (1) (by decide) _).mono ?_); rintro e wx ⟨rfl, rfl⟩)
              | (go_at_call 12; (with_reducible refine (sign_of (-1) (by decide) _).mono ?_); rintro e wx ⟨rfl, rfl⟩))
            go_ret
            exact ⟨rfl, HT.out.2.2.2.2.1⟩
    · have e2 : decide (m.length ≤ 2147483647) = false := by simpa using h2
      go_enter Tryz.func3, Tryz.ntmps3
      go_wp2_with (first
        | (go_at_call 7; (with_reducible refine (zzFits _ _ _ _ _).mono ?_); rintro e wx ⟨rfl, hb⟩; have HT := Lib.hid (Two.step HT.out hb HT.out.2.2.2.2.2); have k0 := HT.out.1; have k1 := HT.out.2.1; have k2 := HT.out.2.2.1; have k3 := HT.out.2.2.2.1))
      go_ret
      exact ⟨rfl, HT.out.2.2.2.2.1⟩
  · have e1 : decide (l.length ≤ 2147483647) = false := by simpa using h1
    go_enter Tryz.func3, Tryz.ntmps3
    go_wp2_with (first
      | (go_at_call 7; (with_reducible refine (zzFits _ _ _ _ _).mono ?_); rintro e wx ⟨rfl, hb⟩; have HT := Lib.hid (Two.step HT.out hb HT.out.2.2.2.2.2); have k0 := HT.out.1; have k1 := HT.out.2.1; have k2 := HT.out.2.2.1; have k3 := HT.out.2.2.2.1))
    go_ret
    exact ⟨rfl, HT.out.2.2.2.2.1⟩
end Go.Proofs.YtnpcmmjdojdmnaaGreatDoor
