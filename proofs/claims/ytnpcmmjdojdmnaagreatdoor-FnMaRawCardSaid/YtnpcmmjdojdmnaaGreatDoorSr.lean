/- base58 of bytes (385, 334, 272); p2p: BytesToString (233). All transcoders do what chk says. -/
import Derived.Test.YtnpcmmjdojdmnaaGreatDoorSi
import Derived.Test.YtnpcmmjdojdmnaaGreatDoorSp
import Derived.Test.YtnpcmmjdojdmnaaGreatDoorSe
import Derived.Test.YtnpcmmjdojdmnaaGreatDoorSm
import Derived.Test.YtnpcmmjdojdmnaaGreatDoorSn
import Derived.Test.YtnpcmmjdojdmnaaGreatDoorSq
namespace Go.Proofs.YtnpcmmjdojdmnaaGreatDoor
open Go Go.RowKit Go.Sort

set_option maxRecDepth 100000 in
set_option maxHeartbeats 4000000 in
theorem b58_385 (l : List UInt8) (hl : 1 ≤ l.length) (hlim : l.length ≤ 1000000) (g o cp : Nat) (w : World) (hc : At w g o l) (hcp : l.length ≤ cp) :
    Calls Tryz.prog 385 #[.slice (some ⟨g, o, none⟩) l.length cp] w fun e w' => ∃ s, e = .returned (.string s) ∧ Below w.heap.size w w' := by
  have hgl : g < w.heap.size := At.lt (l := l) hc (by omega)
  have H1 := Lib.hid (btc304 w)
  have H2 : Hid (∀ w2 q, Below w.heap.size w w2 → Alph w2 q → Calls Tryz.prog 375 #[.slice (some ⟨g, o, none⟩) l.length cp, .pointer (some ⟨q, 0, none⟩)] w2 fun e w' => ∃ s, e = .returned (.string s) ∧ Below w.heap.size w w') := Lib.hid fun w2 q hb hq => by
    refine (fast58 l hlim q g o cp w2 hq (At.below (l := l) hc hb hgl) (Nat.lt_of_lt_of_le hgl hb.size) hcp).mono ?_
    rintro e w' ⟨s, rfl, hb2⟩
    exact ⟨s, rfl, hb.trans (hb2.mono hb.size)⟩
  generalize l.length = n at *
  clear hc hgl
  go_enter Tryz.func385, Tryz.ntmps385
  go_wp2_with (first
    | (go_at_call 304; (with_reducible refine H1.out.mono ?_); rintro e w2 ⟨q, rfl, hq, hb⟩)
    | (go_at_call 375; (with_reducible refine (H2.out _ _ hb hq).mono ?_); rintro e w3 ⟨s, rfl, hb3⟩))
  go_ret
  exact ⟨s, rfl, hb3⟩

set_option maxRecDepth 100000 in
set_option maxHeartbeats 4000000 in
theorem b58_334 (l : List UInt8) (hl : 1 ≤ l.length) (hlim : l.length ≤ 1000000) (g o cp : Nat) (w : World) (hc : At w g o l) (hcp : l.length ≤ cp) :
    Calls Tryz.prog 334 #[.slice (some ⟨g, o, none⟩) l.length cp] w fun e w' => ∃ s, e = .returned (.string s) ∧ Below w.heap.size w w' := by
  have H := Lib.hid (b58_385 l hl hlim g o cp w hc hcp)
  generalize l.length = n at *
  clear hc
  go_enter Tryz.func334, Tryz.ntmps334
  go_wp2_with (go_at_call 385; (with_reducible refine H.out.mono ?_); rintro e w2 ⟨s, rfl, hb⟩)
  go_ret
  exact ⟨s, rfl, hb⟩

set_option maxRecDepth 100000 in
set_option maxHeartbeats 4000000 in
theorem b58_272 (l : List UInt8) (hl : 1 ≤ l.length) (hlim : l.length ≤ 1000000) (g o cp : Nat) (w : World) (hc : At w g o l) (hcp : l.length ≤ cp) :
    Calls Tryz.prog 272 #[.slice (some ⟨g, o, none⟩) l.length cp] w fun e w' => ∃ s, e = .returned (.string s) ∧ Below w.heap.size w w' := by
  have H := Lib.hid (b58_334 l hl hlim g o cp w hc hcp)
  generalize l.length = n at *
  clear hc
  go_enter Tryz.func272, Tryz.ntmps272
  go_wp2_with (go_at_call 334; (with_reducible refine H.out.mono ?_); rintro e w2 ⟨s, rfl, hb⟩)
  go_ret
  exact ⟨s, rfl, hb⟩

set_option maxRecDepth 100000 in
set_option maxHeartbeats 4000000 in
theorem bts233Y (l : List UInt8) (h : mhOk l = true) (hl : 1 ≤ l.length) (hlim : l.length ≤ 1000000) : BtsY 233 l := by
  intro w g o cp hcp he hc
  cases hr : mhRead l with
  | none => rw [mhOk, hr] at h; cases h
  | some x =>
    obtain ⟨code, m⟩ := x
    have hgl : g < w.heap.size := At.lt (l := l) hc (by omega)
    have H := Lib.hid (mhCastY l code m hr g o cp w he.errs hc hcp hlim)
    have HE : Hid (∀ w2, Below w.heap.size w w2 → Calls Tryz.prog 272 #[.slice (some ⟨g, o, none⟩) l.length cp] w2 fun e w' => ∃ s, e = .returned (.string s) ∧ Below w.heap.size w w') := Lib.hid fun w2 hb => by
      refine (b58_272 l hl hlim g o cp w2 (At.below (l := l) hc hb hgl) hcp).mono ?_
      rintro e w' ⟨s, rfl, hb2⟩
      exact ⟨s, rfl, hb.trans (hb2.mono hb.size)⟩
    clear hr he hc h hgl
    generalize l.length = N at *
    go_enter Tryz.func233, Tryz.ntmps233
    go_wp2_with (first
      | (go_at_call 271; (with_reducible refine H.out.mono ?_); rintro e w2 ⟨rfl, hb⟩)
      | (go_at_call 272; (with_reducible refine (HE.out _ hb).mono ?_); rintro e w3 ⟨s, rfl, hb3⟩))
    go_ret2
    exact ⟨s, rfl, hb3⟩

set_option maxRecDepth 100000 in
set_option maxHeartbeats 4000000 in
theorem bts233N (l : List UInt8) (h : mhOk l = false) (hl : 0 < l.length) (hlim : l.length ≤ 1000000) : BtsN 233 l := by
  intro w g o cp hcp he hc
  cases hr : mhRead l with
  | some x => rw [mhOk, hr] at h; cases h
  | none =>
    have H := Lib.hid (mhCastN l hr g o cp w he.errs hc hl hcp hlim)
    clear hr he hc h hl
    generalize l.length = N at *
    go_enter Tryz.func233, Tryz.ntmps233
    go_wp2_with (go_at_call 271; (with_reducible refine H.out.mono ?_); rintro e w2 ⟨pa, na, ca, t, p, rfl, hb⟩)
    go_ret2
    exact ⟨_, t, p, rfl, hb⟩
end Go.Proofs.YtnpcmmjdojdmnaaGreatDoor
namespace Go.Proofs.YtnpcmmjdojdmnaaGreatDoor
open Go Go.RowKit

theorem nb {b : Bool} (h : (!b) = true) : b = false := by cases b <;> simp_all
theorem nb' {b : Bool} (h : (!b) = false) : b = true := by cases b <;> simp_all
theorem list1 {l : List UInt8} (h : l.length = 1) : ∃ a, l = [a] := by
  match l, h with
  | [a], _ => exact ⟨a, rfl⟩
theorem list2 {l : List UInt8} (h : l.length = 2) : ∃ a b, l = [a, b] := by
  match l, h with
  | [a, b], _ => exact ⟨a, b, rfl⟩
theorem list8 {l : List UInt8} (h : l.length = 8) : ∃ a b c d e f g i, l = [a, b, c, d, e, f, g, i] := by
  match l, h with
  | [a, b, c, d, e, f, g, i], _ => exact ⟨a, b, c, d, e, f, g, i, rfl⟩

theorem trans_4 (l : List UInt8) (hn : l.length = 4) (_hlim : l.length ≤ 1000000) : Trans 4 l := by
  have hl : 1 ≤ l.length := by omega
  refine ⟨_, rfl, fun h => ?_, fun h => ?_, fun h => ?_, fun h => ?_⟩
  · exact sayY_200 _ _ l hl (bts200 l (by omega))
  · have h : true = false := h
    cases h
  · exact mindY_nil _ _ _
  · have h : true = false := h
    cases h

theorem trans_6 (l : List UInt8) (hn : l.length = 2) (hlim : l.length ≤ 1000000) : Trans 6 l := by
  have hl : 1 ≤ l.length := by omega
  refine ⟨_, rfl, fun h => ?_, fun h => ?_, fun h => ?_, fun h => ?_⟩
  · obtain ⟨x, y, rfl⟩ := list2 hn
    exact sayY_202 _ _ _ hl (bts202 x y)
  · have h : true = false := h
    cases h
  · exact mindY_nil _ _ _
  · have h : true = false := h
    cases h

theorem trans_33 (l : List UInt8) (hn : l.length = 2) (hlim : l.length ≤ 1000000) : Trans 33 l := by
  have hl : 1 ≤ l.length := by omega
  refine ⟨_, rfl, fun h => ?_, fun h => ?_, fun h => ?_, fun h => ?_⟩
  · obtain ⟨x, y, rfl⟩ := list2 hn
    exact sayY_202 _ _ _ hl (bts202 x y)
  · have h : true = false := h
    cases h
  · exact mindY_nil _ _ _
  · have h : true = false := h
    cases h

theorem trans_41 (l : List UInt8) (hn : l.length = 16) (_hlim : l.length ≤ 1000000) : Trans 41 l := by
  have hl : 1 ≤ l.length := by omega
  refine ⟨_, rfl, fun h => ?_, fun h => ?_, fun h => ?_, fun h => ?_⟩
  · exact sayY_207 _ _ l hl (bts207 l (by omega))
  · have h : true = false := h
    cases h
  · exact mindY_nil _ _ _
  · have h : true = false := h
    cases h

theorem trans_42 (l : List UInt8) (hl : 1 ≤ l.length) (_hlim : l.length ≤ 1000000) : Trans 42 l := by
  refine ⟨_, rfl, fun h => ?_, fun h => ?_, fun h => ?_, fun h => ?_⟩
  · exact sayY_209 _ _ l hl (bts209 l hl)
  · have h : true = false := h
    cases h
  · have h : (!l.contains 47) = true := h
    exact mindY_210 _ _ l hl (val210Y l hl (by simpa using h))
  · have h : (!l.contains 47) = false := h
    exact mindN_210 _ _ l hl (val210N l hl (by simpa using h))

theorem trans_43 (l : List UInt8) (hn : l.length = 1) (hlim : l.length ≤ 1000000) : Trans 43 l := by
  have hl : 1 ≤ l.length := by omega
  refine ⟨_, rfl, fun h => ?_, fun h => ?_, fun h => ?_, fun h => ?_⟩
  · obtain ⟨x, rfl⟩ := list1 hn
    exact sayY_212 _ _ _ hl (bts212 x)
  · have h : true = false := h
    cases h
  · obtain ⟨x, rfl⟩ := list1 hn
    exact mindY_213 _ _ _ hl (val213 x)
  · have h : true = false := h
    cases h

theorem trans_53 (l : List UInt8) (hl : 1 ≤ l.length) (_hlim : l.length ≤ 1000000) : Trans 53 l := by
  refine ⟨_, rfl, fun h => ?_, fun h => ?_, fun h => ?_, fun h => ?_⟩
  · exact sayY_204 _ _ l hl (bts204 l)
  · have h : true = false := h
    cases h
  · have h : (!l.contains 47) = true := h
    exact mindY_205 _ _ l hl (val205Y l hl (by simpa using h))
  · have h : (!l.contains 47) = false := h
    exact mindN_205 _ _ l hl (val205N l hl (by simpa using h))

theorem trans_54 (l : List UInt8) (hl : 1 ≤ l.length) (_hlim : l.length ≤ 1000000) : Trans 54 l := by
  refine ⟨_, rfl, fun h => ?_, fun h => ?_, fun h => ?_, fun h => ?_⟩
  · exact sayY_204 _ _ l hl (bts204 l)
  · have h : true = false := h
    cases h
  · have h : (!l.contains 47) = true := h
    exact mindY_205 _ _ l hl (val205Y l hl (by simpa using h))
  · have h : (!l.contains 47) = false := h
    exact mindN_205 _ _ l hl (val205N l hl (by simpa using h))

theorem trans_55 (l : List UInt8) (hl : 1 ≤ l.length) (_hlim : l.length ≤ 1000000) : Trans 55 l := by
  refine ⟨_, rfl, fun h => ?_, fun h => ?_, fun h => ?_, fun h => ?_⟩
  · exact sayY_204 _ _ l hl (bts204 l)
  · have h : true = false := h
    cases h
  · have h : (!l.contains 47) = true := h
    exact mindY_205 _ _ l hl (val205Y l hl (by simpa using h))
  · have h : (!l.contains 47) = false := h
    exact mindN_205 _ _ l hl (val205N l hl (by simpa using h))

theorem trans_56 (l : List UInt8) (hl : 1 ≤ l.length) (_hlim : l.length ≤ 1000000) : Trans 56 l := by
  refine ⟨_, rfl, fun h => ?_, fun h => ?_, fun h => ?_, fun h => ?_⟩
  · exact sayY_204 _ _ l hl (bts204 l)
  · have h : true = false := h
    cases h
  · have h : (!l.contains 47) = true := h
    exact mindY_205 _ _ l hl (val205Y l hl (by simpa using h))
  · have h : (!l.contains 47) = false := h
    exact mindN_205 _ _ l hl (val205N l hl (by simpa using h))

theorem trans_132 (l : List UInt8) (hn : l.length = 2) (hlim : l.length ≤ 1000000) : Trans 132 l := by
  have hl : 1 ≤ l.length := by omega
  refine ⟨_, rfl, fun h => ?_, fun h => ?_, fun h => ?_, fun h => ?_⟩
  · obtain ⟨x, y, rfl⟩ := list2 hn
    exact sayY_202 _ _ _ hl (bts202 x y)
  · have h : true = false := h
    cases h
  · exact mindY_nil _ _ _
  · have h : true = false := h
    cases h

theorem trans_273 (l : List UInt8) (hn : l.length = 2) (hlim : l.length ≤ 1000000) : Trans 273 l := by
  have hl : 1 ≤ l.length := by omega
  refine ⟨_, rfl, fun h => ?_, fun h => ?_, fun h => ?_, fun h => ?_⟩
  · obtain ⟨x, y, rfl⟩ := list2 hn
    exact sayY_202 _ _ _ hl (bts202 x y)
  · have h : true = false := h
    cases h
  · exact mindY_nil _ _ _
  · have h : true = false := h
    cases h

theorem trans_400 (l : List UInt8) (hl : 1 ≤ l.length) (hlim : l.length ≤ 1000000) : Trans 400 l := by
  refine ⟨_, rfl, fun h => ?_, fun h => ?_, fun h => ?_, fun h => ?_⟩
  · exact sayY_236 _ _ l hl (bts236 l)
  · have h : true = false := h
    cases h
  · have h : (decide (2 ≤ l.length) && l.getD 0 0 == 47 && l.getD (l.length - 1) 0 != 47) = true := h
    simp only [Bool.and_eq_true, decide_eq_true_eq, beq_iff_eq, bne_iff_ne] at h
    exact mindY_237 _ _ l hl (val237Y l h.1.1 h.1.2 h.2 hlim)
  · have h : (decide (2 ≤ l.length) && l.getD 0 0 == 47 && l.getD (l.length - 1) 0 != 47) = false := h
    refine mindN_237 _ _ l hl ?_
    by_cases h2 : 2 ≤ l.length
    · by_cases h0 : l.getD 0 0 = 47
      · by_cases h1 : l.getD (l.length - 1) 0 = 47
        · exact val237c l h2 h0 h1 hlim
        · have : (decide (2 ≤ l.length) && l.getD 0 0 == 47 && l.getD (l.length - 1) 0 != 47) = true := by
            simp only [Bool.and_eq_true, decide_eq_true_eq, beq_iff_eq, bne_iff_ne]
            exact ⟨⟨h2, h0⟩, h1⟩
          rw [this] at h
          cases h
      · exact val237b l h2 h0
    · exact val237a l h2

theorem trans_421 (l : List UInt8) (hl : 1 ≤ l.length) (hlim : l.length ≤ 1000000) : Trans 421 l := by
  refine ⟨_, rfl, fun h => ?_, fun h => ?_, fun h => ?_, fun h => ?_⟩
  · have h : mhOk l = true := h
    exact sayY_233 _ _ l hl (bts233Y l h hl hlim)
  · have h : mhOk l = false := h
    exact sayN_233 _ _ l hl (bts233N l h hl hlim)
  · have h : p2pOk l = true := h
    rw [p2pOk] at h
    cases hr : mhRead l with
    | none => rw [hr] at h; cases h
    | some x =>
      obtain ⟨code, m⟩ := x
      rw [hr] at h
      exact mindY_234 _ _ l hl (val234Y l code m hr (by simpa using h) hlim)
  · have h : p2pOk l = false := h
    rw [p2pOk] at h
    cases hr : mhRead l with
    | none => exact mindN_234 _ _ l hl (val234N0 l hr hl hlim)
    | some x =>
      obtain ⟨code, m⟩ := x
      rw [hr] at h
      have h : (code == 18 && m == 32 || code == 0) = false := h
      exact mindN_234 _ _ l hl (val234N l code m hr (by
        intro hh
        have : (code == 18 && m == 32 || code == 0) = true := by simpa using hh
        rw [this] at h
        cases h) hlim)

theorem trans_444 (l : List UInt8) (hn : l.length = 12) (_hlim : l.length ≤ 1000000) : Trans 444 l := by
  have hl : 1 ≤ l.length := by omega
  refine ⟨_, rfl, fun h => ?_, fun h => ?_, fun h => ?_, fun h => ?_⟩
  · have h : (!(l.getD 10 0 == 0 && l.getD 11 0 == 0)) = true := h
    exact sayY_215 _ _ l hl (bts215Y l hn (nb h))
  · have h : (!(l.getD 10 0 == 0 && l.getD 11 0 == 0)) = false := h
    exact sayN_215 _ _ l hl (bts215N l hn (nb' h))
  · have h : (!(l.getD 10 0 == 0 && l.getD 11 0 == 0)) = true := h
    exact mindY_216 _ _ l hl (val216Y l hn (nb h))
  · have h : (!(l.getD 10 0 == 0 && l.getD 11 0 == 0)) = false := h
    exact mindN_216 _ _ l hl (val216N l hn (nb' h))

theorem trans_445 (l : List UInt8) (hn : l.length = 37) (_hlim : l.length ≤ 1000000) : Trans 445 l := by
  have hl : 1 ≤ l.length := by omega
  refine ⟨_, rfl, fun h => ?_, fun h => ?_, fun h => ?_, fun h => ?_⟩
  · have h : (!(l.getD 35 0 == 0 && l.getD 36 0 == 0)) = true := h
    exact sayY_218 _ _ l hl (bts218Y l hn (nb h))
  · have h : (!(l.getD 35 0 == 0 && l.getD 36 0 == 0)) = false := h
    exact sayN_218 _ _ l hl (bts218N l hn (nb' h))
  · have h : (!(l.getD 35 0 == 0 && l.getD 36 0 == 0)) = true := h
    exact mindY_219 _ _ l hl (val219Y l hn (nb h))
  · have h : (!(l.getD 35 0 == 0 && l.getD 36 0 == 0)) = false := h
    exact mindN_219 _ _ l hl (val219N l hn (nb' h))

theorem trans_446 (l : List UInt8) (hl : 1 ≤ l.length) (hlim : l.length ≤ 1000000) : Trans 446 l := by
  refine ⟨_, rfl, fun h => ?_, fun h => ?_, fun h => ?_, fun h => ?_⟩
  · have h : decide (386 ≤ l.length) = true := h
    exact sayY_221 _ _ l hl (bts221Y l (of_decide_eq_true h) hlim)
  · have h : decide (386 ≤ l.length) = false := h
    exact sayN_221 _ _ l hl (bts221N l (of_decide_eq_false h))
  · have h : decide (386 ≤ l.length) = true := h
    exact mindY_222 _ _ l hl (val222Y l (of_decide_eq_true h))
  · have h : decide (386 ≤ l.length) = false := h
    exact mindN_222 _ _ l hl (val222N l (of_decide_eq_false h))

theorem trans_447 (l : List UInt8) (hl : 1 ≤ l.length) (hlim : l.length ≤ 1000000) : Trans 447 l := by
  refine ⟨_, rfl, fun h => ?_, fun h => ?_, fun h => ?_, fun h => ?_⟩
  · have h : decide (35 ≤ l.length ∨ l.length = 32) = true := h
    exact sayY_224 _ _ l hl (bts224Y l (of_decide_eq_true h) hlim)
  · have h : decide (35 ≤ l.length ∨ l.length = 32) = false := h
    exact sayN_224 _ _ l hl (bts224N l (of_decide_eq_false h))
  · have h : decide (35 ≤ l.length ∨ l.length = 32) = true := h
    exact mindY_225 _ _ l hl (val225Y l (of_decide_eq_true h))
  · have h : decide (35 ≤ l.length ∨ l.length = 32) = false := h
    exact mindN_225 _ _ l hl (val225N l (of_decide_eq_false h))

theorem trans_449 (l : List UInt8) (hl : 1 ≤ l.length) (_hlim : l.length ≤ 1000000) : Trans 449 l := by
  refine ⟨_, rfl, fun h => ?_, fun h => ?_, fun h => ?_, fun h => ?_⟩
  · exact sayY_204 _ _ l hl (bts204 l)
  · have h : true = false := h
    cases h
  · have h : (!l.contains 47) = true := h
    exact mindY_205 _ _ l hl (val205Y l hl (by simpa using h))
  · have h : (!l.contains 47) = false := h
    exact mindN_205 _ _ l hl (val205N l hl (by simpa using h))

theorem trans_466 (l : List UInt8) (hl : 1 ≤ l.length) (hlim : l.length ≤ 1000000) : Trans 466 l := by
  refine ⟨_, rfl, fun h => ?_, fun h => ?_, fun h => ?_, fun h => ?_⟩
  · exact sayY_227 _ _ l hl (bts227Y l hl hlim)
  · have h : true = false := h
    cases h
  · have h : mhOk l = true := h
    exact mindY_228 _ _ l hl (val228Y l h hlim)
  · have h : mhOk l = false := h
    exact mindN_228 _ _ l hl (val228N l h hl hlim)

theorem trans_481 (l : List UInt8) (hl : 1 ≤ l.length) (hlim : l.length ≤ 1000000) : Trans 481 l := by
  refine ⟨_, rfl, fun h => ?_, fun h => ?_, fun h => ?_, fun h => ?_⟩
  · exact sayY_230 _ _ l hl (bts230Y l hl hlim)
  · have h : true = false := h
    cases h
  · exact mindY_231 _ _ l hl (val231 l hl)
  · have h : true = false := h
    cases h

theorem trans_777 (l : List UInt8) (hn : l.length = 8) (hlim : l.length ≤ 1000000) : Trans 777 l := by
  have hl : 1 ≤ l.length := by omega
  refine ⟨_, rfl, fun h => ?_, fun h => ?_, fun h => ?_, fun h => ?_⟩
  · obtain ⟨x0, x1, x2, x3, x4, x5, x6, x7, rfl⟩ := list8 hn
    exact sayY_239 _ _ _ hl (bts239 x0 x1 x2 x3 x4 x5 x6 x7)
  · have h : true = false := h
    cases h
  · exact mindY_240 _ _ l hl (val240 l hn)
  · have h : true = false := h
    cases h

theorem allTrans : AllTrans := by
  intro c l hk hz hs hlim
  rcases known_cases c with rfl | rfl | rfl | rfl | rfl | rfl | rfl | rfl | rfl | rfl | rfl | rfl | rfl | rfl | rfl | rfl | rfl | rfl | rfl | rfl | rfl | rfl | rfl | rfl | rfl | rfl | rfl | rfl | rfl | rfl | rfl | rfl | rfl | rfl | rfl | rfl | rfl | rfl | h
  · have e : psz 4 = 32 := rfl
    rw [e] at hs
    exact trans_4 l (by omega) hlim
  · have e : psz 6 = 16 := rfl
    rw [e] at hs
    exact trans_6 l (by omega) hlim
  · have e : psz 33 = 16 := rfl
    rw [e] at hs
    exact trans_33 l (by omega) hlim
  · have e : psz 41 = 128 := rfl
    rw [e] at hs
    exact trans_41 l (by omega) hlim
  · have e : psz 42 = -1 := rfl
    rw [e] at hs
    exact trans_42 l (by omega) hlim
  · have e : psz 43 = 8 := rfl
    rw [e] at hs
    exact trans_43 l (by omega) hlim
  · have e : psz 53 = -1 := rfl
    rw [e] at hs
    exact trans_53 l (by omega) hlim
  · have e : psz 54 = -1 := rfl
    rw [e] at hs
    exact trans_54 l (by omega) hlim
  · have e : psz 55 = -1 := rfl
    rw [e] at hs
    exact trans_55 l (by omega) hlim
  · have e : psz 56 = -1 := rfl
    rw [e] at hs
    exact trans_56 l (by omega) hlim
  · have e : psz 132 = 16 := rfl
    rw [e] at hs
    exact trans_132 l (by omega) hlim
  · have e : psz 273 = 16 := rfl
    rw [e] at hs
    exact trans_273 l (by omega) hlim
  · exact absurd rfl hz
  · exact absurd rfl hz
  · exact absurd rfl hz
  · exact absurd rfl hz
  · exact absurd rfl hz
  · exact absurd rfl hz
  · have e : psz 400 = -1 := rfl
    rw [e] at hs
    exact trans_400 l (by omega) hlim
  · have e : psz 421 = -1 := rfl
    rw [e] at hs
    exact trans_421 l (by omega) hlim
  · exact absurd rfl hz
  · have e : psz 444 = 96 := rfl
    rw [e] at hs
    exact trans_444 l (by omega) hlim
  · have e : psz 445 = 296 := rfl
    rw [e] at hs
    exact trans_445 l (by omega) hlim
  · have e : psz 446 = -1 := rfl
    rw [e] at hs
    exact trans_446 l (by omega) hlim
  · have e : psz 447 = -1 := rfl
    rw [e] at hs
    exact trans_447 l (by omega) hlim
  · exact absurd rfl hz
  · have e : psz 449 = -1 := rfl
    rw [e] at hs
    exact trans_449 l (by omega) hlim
  · exact absurd rfl hz
  · exact absurd rfl hz
  · exact absurd rfl hz
  · exact absurd rfl hz
  · have e : psz 466 = -1 := rfl
    rw [e] at hs
    exact trans_466 l (by omega) hlim
  · exact absurd rfl hz
  · exact absurd rfl hz
  · exact absurd rfl hz
  · have e : psz 481 = -1 := rfl
    rw [e] at hs
    exact trans_481 l (by omega) hlim
  · have e : psz 777 = 64 := rfl
    rw [e] at hs
    exact trans_777 l (by omega) hlim
  · exact absurd rfl hz
  · simp [known, row_none h] at hk
end Go.Proofs.YtnpcmmjdojdmnaaGreatDoor
