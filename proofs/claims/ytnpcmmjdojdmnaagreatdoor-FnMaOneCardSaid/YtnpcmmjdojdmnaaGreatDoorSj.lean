/- Multihashes: uvarint (396), readMultihashFromBuf (367). Multihashes: decode (308), Decode (262), Cast (271); ValidateBytes of p2p (234) and certhash (228). -/
import Derived.Test.YtnpcmmjdojdmnaaGreatDoorSi
import Derived.Test.YtnpcmmjdojdmnaaGreatDoorSa
namespace Go.Proofs.YtnpcmmjdojdmnaaGreatDoor
open Go Go.RowKit Go.Sort

set_option maxRecDepth 100000 in
set_option maxHeartbeats 4000000 in
theorem mhUvN (l : List UInt8) (hr : rdVar l = none) (g o cp : Nat) (w : World) (hE : Errs w) (hc : At w g o l) :
    Calls Tryz.prog 396 #[.slice (some ⟨g, o, none⟩) l.length cp] w fun e w' => ∃ t p, e = .returned (.tuple #[.int .u64 0, .slice (some ⟨g, o, none⟩) l.length cp, .iface t p]) ∧ Below w.heap.size w w' := by
  have H := Lib.hid (fromUvarint g o l.length cp l w rfl hc hE)
  rw [hr] at H
  clear hr hE hc
  go_enter Tryz.func396, Tryz.ntmps396
  go_wp2_with (go_at_call 150; (with_reducible refine H.out.mono ?_); rintro e w1 ⟨⟨t, p, rfl⟩, hb1⟩)
  go_ret3
  exact ⟨t, p, rfl, hb1⟩

set_option maxRecDepth 100000 in
set_option maxHeartbeats 4000000 in
theorem mhUvY (l : List UInt8) (v n : Nat) (hr : rdVar l = some (v, n)) (g o cp : Nat) (w : World) (hE : Errs w) (hc : At w g o l) (hcp : l.length ≤ cp) (_hlim : l.length ≤ 1000000) :
    Calls Tryz.prog 396 #[.slice (some ⟨g, o, none⟩) l.length cp] w fun e w' => ∃ o' cp', e = .returned (.tuple #[.int .u64 v, .slice (some ⟨g, o', none⟩) (l.length - n) cp', .nilIface]) ∧ At w g o' (l.drop n) ∧ l.length - n ≤ cp' ∧ Below w.heap.size w w' := by
  have H := Lib.hid (fromUvarint g o l.length cp l w rfl hc hE)
  rw [hr] at H
  obtain ⟨r, hl, hn, hv⟩ := rdVar_some hr
  have hn1 : 1 ≤ n := by rw [hn]; exact Lib.uvarint_pos _
  have hnl : n ≤ l.length := by rw [hl, List.length_append, ← hn]; omega
  have hat : Hid (At w g (o + n) (l.drop n)) := Lib.hid (by
    have : l = l.take n ++ l.drop n := (List.take_append_drop n l).symm
    rw [this] at hc
    have h2 := hc.drop
    rwa [List.length_take, Nat.min_eq_left hnl] at h2)
  have HD : Hid ((l.drop n).length = l.length - n) := Lib.hid List.length_drop
  have e0 : ((n : Int) == 0) = false := by
    have : (n : Int) ≠ 0 := by omega
    simpa using this
  have e1 : decide ((n : Int) < 0) = false := by simp
  have q1 : (0 : Int) ≤ (n : Int) := by omega
  have q2 : (n : Int) ≤ (l.length : Int) := by omega
  clear hr hE hc hl hn
  rcases Decidable.em (n = cp) with rfl | hcc
  · have hln : l.length = n := by omega
    have HLN := Lib.hid hln
    clear hln
    go_enter Tryz.func396, Tryz.ntmps396
    go_wp2_with (go_at_call 150; (with_reducible refine H.out.mono ?_); rintro e w1 ⟨rfl, hb1⟩)
    go_quiet (fail)
    go_wp2
    go_ret3
    have e := HLN.out
    exact ⟨o, 0, by rw [e, Nat.sub_self]; rfl, fun j hj => by rw [HD.out] at hj; omega, by omega, below_drewN hb1 _⟩
  · go_enter Tryz.func396, Tryz.ntmps396
    go_wp2_with (go_at_call 150; (with_reducible refine H.out.mono ?_); rintro e w1 ⟨rfl, hb1⟩)
    go_quiet (fail)
    go_wp2
    go_ret3
    exact ⟨o + n, cp - n, rfl, hat.out, by omega, below_drewN hb1 _⟩

/-- The head of a multihash: code, length of the digest, length of all. -/
def mhHead (l : List UInt8) : Option (Nat × Nat × Nat) :=
  if l.length < 2 then none else match rdVar l with
  | none => none
  | some (code, n) => match rdVar (l.drop n) with
    | none => none
    | some (m, k) => if 2147483647 < m ∨ (l.drop (n + k)).length < m then none else some (code, m, n + k + m)

theorem mhRead_head (l : List UInt8) : mhRead l = match mhHead l with
  | none => none
  | some (code, m, r) => if r = l.length then some (code, m) else none := by
  rw [mhRead, mhHead]
  split
  · rfl
  · cases h1 : rdVar l with
    | none => rfl
    | some x =>
      obtain ⟨code, n⟩ := x
      simp only
      cases h2 : rdVar (l.drop n) with
      | none => rfl
      | some y =>
        obtain ⟨m, k⟩ := y
        simp only
        split
        · rfl
        · rename_i h
          obtain ⟨r, hl, hn, _⟩ := rdVar_some h1
          obtain ⟨r2, hl2, hk, _⟩ := rdVar_some h2
          have e1 := congrArg List.length hl2
          rw [List.length_append, List.length_drop, ← hk] at e1
          have e2 := Lib.uvarint_pos m
          have e3 : (l.drop (n + k)).length = l.length - (n + k) := List.length_drop
          by_cases hx : (l.drop (n + k)).length = m
          · rw [if_pos hx]
            simp only
            rw [if_pos (by omega)]
          · rw [if_neg hx]
            simp only
            rw [if_neg (by omega)]

theorem results367 (tmps : Array Value) (w : World) : (results Tryz.f367 tmps).run Tryz.prog w = .ok (.tuple #[tmps.getD 2 undef, tmps.getD 3 undef, tmps.getD 4 undef, tmps.getD 5 undef]) w := by
  simp [results, Tryz.results367]

set_option maxRecDepth 100000 in
set_option maxHeartbeats 4000000 in
theorem mhBufN (l : List UInt8) (hr : mhHead l = none) (g o cp : Nat) (w : World) (hE : Errs w) (hc : At w g o l) (hcp : l.length ≤ cp) (hlim : l.length ≤ 1000000) :
    Calls Tryz.prog 367 #[.slice (some ⟨g, o, none⟩) l.length cp] w fun e w' => ∃ t p, e = .returned (.tuple #[.int .i64 0, .int .u64 0, .slice none 0 0, .iface t p]) ∧ Below w.heap.size w w' := by
  rw [mhHead] at hr
  split at hr
  · rename_i h2
    obtain ⟨t20, p20, c20⟩ := hE.at 20
    have e0 : decide ((l.length : Int) < 2) = true := by simp; omega
    clear hE hc hr
    go_enter Tryz.func367, Tryz.ntmps367
    go_wp2
    go_quiet (fail)
    go_wp2
    refine bodyPost_ret (results367 _ _) rfl ?_
    exact ⟨t20, p20, rfl, below_drewN (Below.refl _ _) _⟩
  · rename_i h2
    have e0 : decide ((l.length : Int) < 2) = false := by simp; omega
    have hgl : g < w.heap.size := hc.lt (by omega)
    cases h1 : rdVar l with
    | none =>
      have H1 := Lib.hid (mhUvN l h1 g o cp w hE hc)
      clear hE hc hr h1
      go_enter Tryz.func367, Tryz.ntmps367
      go_wp2_with (go_at_call 396; (with_reducible refine H1.out.mono ?_); rintro e w1 ⟨t, p, rfl, hb1⟩)
      refine bodyPost_ret (results367 _ _) rfl ?_
      exact ⟨t, p, rfl, hb1⟩
    | some x =>
      obtain ⟨code, n⟩ := x
      have H1 := Lib.hid (mhUvY l code n h1 g o cp w hE hc hcp hlim)
      rw [h1] at hr
      simp only at hr
      have hLD : (l.drop n).length = l.length - n := List.length_drop
      have HE := Lib.hid hE
      cases h3 : rdVar (l.drop n) with
      | none =>
        have HN : Hid (∀ (w1 : World) (o1 cp1 : Nat), Below w.heap.size w w1 → At w1 g o1 (l.drop n) → Calls Tryz.prog 396 #[.slice (some ⟨g, o1, none⟩) (l.length - n) cp1] w1 fun e w' => ∃ t p, e = .returned (.tuple #[.int .u64 0, .slice (some ⟨g, o1, none⟩) (l.length - n) cp1, .iface t p]) ∧ Below w.heap.size w w') := Lib.hid fun w1 o1 cp1 hb hat => by
          have := mhUvN (l.drop n) h3 g o1 cp1 w1 (HE.out.below hb (Nat.le_refl _)) hat
          rw [hLD] at this
          refine this.mono ?_
          rintro e w' ⟨t, p, rfl, hb2⟩
          exact ⟨t, p, rfl, hb.trans (hb2.mono hb.size)⟩
        clear hE hc hr h1 h3 hLD
        go_enter Tryz.func367, Tryz.ntmps367
        go_wp2_with (first
          | (go_at_call 396; (with_reducible refine H1.out.mono ?_); rintro e w1 ⟨o1, cp1, rfl, hat1, hcp1, hb1⟩; have hat1' := hat1.below hb1 hgl)
          | (go_at_call 396; (with_reducible refine (HN.out w1 o1 cp1 hb1 hat1').mono ?_); rintro e w2 ⟨t, p, rfl, hb2⟩))
        refine bodyPost_ret (results367 _ _) rfl ?_
        exact ⟨t, p, rfl, hb2⟩
      | some y =>
        obtain ⟨m, k⟩ := y
        rw [h3] at hr
        simp only at hr
        have hbad : 2147483647 < m ∨ (l.drop (n + k)).length < m := by
          by_cases hx : 2147483647 < m ∨ (l.drop (n + k)).length < m
          · exact hx
          · rw [if_neg hx] at hr; cases hr
        have hm := (rdVar_some h3).choose_spec.2.2
        have hL2 : (l.drop (n + k)).length = l.length - n - k := by rw [List.length_drop]; omega
        rw [hL2] at hbad
        have HY : Hid (∀ (w1 : World) (o1 cp1 : Nat), Below w.heap.size w w1 → At w1 g o1 (l.drop n) → l.length - n ≤ cp1 → Calls Tryz.prog 396 #[.slice (some ⟨g, o1, none⟩) (l.length - n) cp1] w1 fun e w' => ∃ o2 cp2, e = .returned (.tuple #[.int .u64 m, .slice (some ⟨g, o2, none⟩) (l.length - n - k) cp2, .nilIface]) ∧ Below w.heap.size w w') := Lib.hid fun w1 o1 cp1 hb hat hle => by
          have := mhUvY (l.drop n) m k h3 g o1 cp1 w1 (HE.out.below hb (Nat.le_refl _)) hat (by rw [hLD]; exact hle) (by rw [hLD]; omega)
          rw [hLD] at this
          refine this.mono ?_
          rintro e w' ⟨o2, cp2, rfl, _, _, hb2⟩
          exact ⟨o2, cp2, rfl, hb.trans (hb2.mono hb.size)⟩
        generalize l.length - n - k = R at *
        clear hE hc hr h1 h3 hLD hL2
        by_cases hbig : 2147483647 < m
        · have e1 : decide (2147483647 < (m : Int)) = true := by simp; omega
          go_enter Tryz.func367, Tryz.ntmps367
          go_wp2_with (first
            | (go_at_call 396; (with_reducible refine H1.out.mono ?_); rintro e w1 ⟨o1, cp1, rfl, hat1, hcp1, hb1⟩; have hat1' := hat1.below hb1 hgl)
            | (go_at_call 396; (with_reducible refine (HY.out w1 o1 cp1 hb1 hat1' hcp1).mono ?_); rintro e w2 ⟨o2, cp2, rfl, hb2⟩)
            | (go_at_call 52; (with_reducible refine (errorsNew _ _).mono ?_); rintro e w5 ⟨t, p, rfl, hb5⟩))
          refine bodyPost_ret (results367 _ _) rfl ?_
          exact ⟨t, p, rfl, hb2.trans (hb5.mono hb2.size)⟩
        · have e1 : decide (2147483647 < (m : Int)) = false := by simp; omega
          have e2 : IntKind.i64.wrap (m : Int) = m := IntWalk.i64_in _ (by omega)
          have e3 : decide ((R : Int) < (m : Int)) = true := by simp; omega
          go_enter Tryz.func367, Tryz.ntmps367
          go_wp2_with (first
            | (go_at_call 396; (with_reducible refine H1.out.mono ?_); rintro e w1 ⟨o1, cp1, rfl, hat1, hcp1, hb1⟩; have hat1' := hat1.below hb1 hgl)
            | (go_at_call 396; (with_reducible refine (HY.out w1 o1 cp1 hb1 hat1' hcp1).mono ?_); rintro e w2 ⟨o2, cp2, rfl, hb2⟩)
            | (go_at_call 52; (with_reducible refine (errorsNew _ _).mono ?_); rintro e w5 ⟨t, p, rfl, hb5⟩))
          refine bodyPost_ret (results367 _ _) rfl ?_
          exact ⟨t, p, rfl, hb2.trans (hb5.mono hb2.size)⟩

set_option maxRecDepth 100000 in
set_option maxHeartbeats 4000000 in
theorem mhBufY (l : List UInt8) (code m r : Nat) (hr : mhHead l = some (code, m, r)) (g o cp : Nat) (w : World) (hE : Errs w) (hc : At w g o l) (hcp : l.length ≤ cp) (hlim : l.length ≤ 1000000) :
    Calls Tryz.prog 367 #[.slice (some ⟨g, o, none⟩) l.length cp] w fun e w' => ∃ o2 cp2, e = .returned (.tuple #[.int .i64 r, .int .u64 code, .slice (some ⟨g, o2, none⟩) m cp2, .nilIface]) ∧ Below w.heap.size w w' := by
  rw [mhHead] at hr
  split at hr
  · cases hr
  rename_i h2
  have e0 : decide ((l.length : Int) < 2) = false := by simp; omega
  have hgl : g < w.heap.size := hc.lt (by omega)
  cases h1 : rdVar l with
  | none => rw [h1] at hr; cases hr
  | some x =>
    obtain ⟨code', n⟩ := x
    rw [h1] at hr
    simp only at hr
    cases h3 : rdVar (l.drop n) with
    | none => rw [h3] at hr; cases hr
    | some y =>
      obtain ⟨m', k⟩ := y
      rw [h3] at hr
      simp only at hr
      split at hr
      · cases hr
      rename_i hgood
      injection hr with hr
      injection hr with hr1 hr2
      injection hr2 with hr2 hr3
      subst hr1 hr2 hr3
      have H1 := Lib.hid (mhUvY l code' n h1 g o cp w hE hc hcp hlim)
      have hLD : (l.drop n).length = l.length - n := List.length_drop
      have HE := Lib.hid hE
      have hL2 : (l.drop (n + k)).length = l.length - n - k := by rw [List.length_drop]; omega
      rw [hL2] at hgood
      obtain ⟨r0, hl0, hn0, _⟩ := rdVar_some h1
      obtain ⟨r2, hl2, hk2, _⟩ := rdVar_some h3
      have hnk : n + k ≤ l.length := by
        have e1 := congrArg List.length hl2
        rw [List.length_append, List.length_drop, ← hk2] at e1
        have e2 := Lib.uvarint_pos m'
        omega
      have HY : Hid (∀ (w1 : World) (o1 cp1 : Nat), Below w.heap.size w w1 → At w1 g o1 (l.drop n) → l.length - n ≤ cp1 → Calls Tryz.prog 396 #[.slice (some ⟨g, o1, none⟩) (l.length - n) cp1] w1 fun e w' => ∃ o2 cp2, e = .returned (.tuple #[.int .u64 m', .slice (some ⟨g, o2, none⟩) (l.length - n - k) cp2, .nilIface]) ∧ l.length - n - k ≤ cp2 ∧ Below w.heap.size w w') := Lib.hid fun w1 o1 cp1 hb hat hle => by
        have := mhUvY (l.drop n) m' k h3 g o1 cp1 w1 (HE.out.below hb (Nat.le_refl _)) hat (by rw [hLD]; exact hle) (by rw [hLD]; omega)
        rw [hLD] at this
        refine this.mono ?_
        rintro e w' ⟨o2, cp2, rfl, _, hle2, hb2⟩
        exact ⟨o2, cp2, rfl, hle2, hb.trans (hb2.mono hb.size)⟩
      obtain ⟨R, hR⟩ : ∃ R, R = l.length - n - k := ⟨_, rfl⟩
      rw [← hR] at HY hgood
      obtain ⟨L, hLL⟩ : ∃ L, L = l.length := ⟨_, rfl⟩
      have e1 : decide (2147483647 < (m' : Int)) = false := by simp; omega
      have e2 : IntKind.i64.wrap (m' : Int) = m' := IntWalk.i64_in _ (by omega)
      have e3 : decide ((R : Int) < (m' : Int)) = false := by simp; omega
      have e4 : IntKind.i64.wrap ((l.length : Int) - (R : Int)) = ((n + k : Nat) : Int) := by rw [IntWalk.i64_in _ (by omega)]; omega
      have e5 : IntKind.i64.wrap (((n + k : Nat) : Int) + (m' : Int)) = ((n + k + m' : Nat) : Int) := by rw [IntWalk.i64_in _ (by omega)]; omega
      have e6 : (0 : Int) ≤ (m' : Int) := by omega
      have HW : Hid (wrap64 ((n : Int) + (k : Int) + (m' : Int)) = ((n + k + m' : Nat) : Int)) := Lib.hid (by unfold wrap64; omega)
      have hmR : m' ≤ R := by omega
      clear hE hc h1 h3 hLD hL2 hl0 hn0 hl2 hk2 hR hLL hgood
      go_enter Tryz.func367, Tryz.ntmps367
      go_wp2_with (first
        | (go_at_call 396; (with_reducible refine H1.out.mono ?_); rintro e w1 ⟨o1, cp1, rfl, hat1, hcp1, hb1⟩; have hat1' := hat1.below hb1 hgl)
        | (go_at_call 396; (with_reducible refine (HY.out w1 o1 cp1 hb1 hat1' hcp1).mono ?_); rintro e w2 ⟨o2, cp2, rfl, hcp2, hb2⟩; have q7 : (m' : Int) ≤ (cp2 : Int) := (by omega)))
      go_quiet (fail)
      go_wp2
      refine bodyPost_ret (results367 _ _) rfl ?_
      exact ⟨o2, cp2, by show Ending.returned (.tuple #[.int .i64 (wrap64 ((n : Int) + (k : Int) + (m' : Int))), _, _, _]) = _; rw [HW.out]; rfl, below_drewN hb2 _⟩
end Go.Proofs.YtnpcmmjdojdmnaaGreatDoor
namespace Go.Proofs.YtnpcmmjdojdmnaaGreatDoor
open Go Go.RowKit Go.Sort

theorem results308 (tmps : Array Value) (w : World) (q : Nat) (a b c d er : Value) (hp2 : tmps.getD 2 undef = .pointer (some ⟨q, 0, none⟩)) (hp3 : tmps.getD 3 undef = er)
    (h0 : w.cell? ⟨q, 0, none⟩ = some a) (h1 : w.cell? ⟨q, 1, none⟩ = some b) (h2 : w.cell? ⟨q, 2, none⟩ = some c) (h3 : w.cell? ⟨q, 3, none⟩ = some d) : (results Tryz.f308 tmps).run Tryz.prog w = .ok (.tuple #[.agg #[a, b, c, d], er]) w := by
  have hp2' : tmps[2]?.getD undef = .pointer (some ⟨q, 0, none⟩) := by simpa using hp2
  have hp3' : tmps[3]?.getD undef = er := by simpa using hp3
  simp [results, Tryz.results308, hp2', hp3', asAddr, go_sem, h0, h1, h2, h3]

theorem row4 {w : World} {q : Nat} {x0 x1 x2 x3 : Value} {t : TypeId} (h : w.heap[q]? = some (.cells #[x0, x1, x2, x3] t (0, 0))) (a b c d : Value) :
    ((((w.setCell ⟨q, 0, none⟩ a).setCell ⟨q, 1, none⟩ b).setCell ⟨q, 2, none⟩ c).setCell ⟨q, 3, none⟩ d).heap[q]? = some (.cells #[a, b, c, d] t (0, 0)) := by
  have h0 : (w.setCell ⟨q, 0, none⟩ a).heap[q]? = some (.cells #[a, x1, x2, x3] t (0, 0)) := by
    rw [setCell_eq_setRow _ _ _ _ t (0, 0) _ h]; exact setRow_heap _ _ _ _ _ _ h
  have h1 : ((w.setCell ⟨q, 0, none⟩ a).setCell ⟨q, 1, none⟩ b).heap[q]? = some (.cells #[a, b, x2, x3] t (0, 0)) := by
    rw [setCell_eq_setRow _ _ _ _ t (0, 0) _ h0]; exact setRow_heap _ _ _ _ _ _ h0
  have h2 : (((w.setCell ⟨q, 0, none⟩ a).setCell ⟨q, 1, none⟩ b).setCell ⟨q, 2, none⟩ c).heap[q]? = some (.cells #[a, b, c, x3] t (0, 0)) := by
    rw [setCell_eq_setRow _ _ _ _ t (0, 0) _ h1]; exact setRow_heap _ _ _ _ _ _ h1
  rw [setCell_eq_setRow _ _ _ _ t (0, 0) _ h2]; exact setRow_heap _ _ _ _ _ _ h2
theorem below4 {B : Nat} {w0 w : World} (h : Below B w0 w) {q : Nat} (hq : B ≤ q) (a b c d : Value) : Below B w0 ((((w.setCell ⟨q, 0, none⟩ a).setCell ⟨q, 1, none⟩ b).setCell ⟨q, 2, none⟩ c).setCell ⟨q, 3, none⟩ d) :=
  (((h.setCell hq _).setCell hq _).setCell hq _).setCell hq _

set_option maxRecDepth 100000 in
set_option maxHeartbeats 4000000 in
theorem mhDecY (l : List UInt8) (code m : Nat) (hr : mhRead l = some (code, m)) (g o cp : Nat) (w : World) (hE : Errs w) (hc : At w g o l) (hcp : l.length ≤ cp) (hlim : l.length ≤ 1000000) :
    Calls Tryz.prog 308 #[.slice (some ⟨g, o, none⟩) l.length cp] w fun e w' => ∃ o2 cp2, e = .returned (.tuple #[.agg #[.int .u64 code, .string ⟨#[]⟩, .int .i64 m, .slice (some ⟨g, o2, none⟩) m cp2], .nilIface]) ∧ Below w.heap.size w w' := by
  have hgl : g < w.heap.size := by
    refine hc.lt ?_
    rw [mhRead] at hr
    split at hr
    · cases hr
    · omega
  have hh : mhHead l = some (code, m, l.length) := by
    rw [mhRead_head] at hr
    split at hr
    · cases hr
    · rename_i code' m' r hh
      split at hr
      · rename_i hrl
        injection hr with hr
        injection hr with h1 h2
        rw [hh, h1, h2, hrl]
      · cases hr
  have H : Hid (∀ ob, Calls Tryz.prog 367 #[.slice (some ⟨g, o, none⟩) l.length cp] (w.alloc ob) fun e w' => ∃ o2 cp2, e = .returned (.tuple #[.int .i64 l.length, .int .u64 code, .slice (some ⟨g, o2, none⟩) m cp2, .nilIface]) ∧ Below (w.alloc ob).heap.size (w.alloc ob) w') := Lib.hid fun ob =>
    mhBufY l code m l.length hh g o cp _ (hE.below ((Below.refl _ _).alloc (Nat.le_refl _) _) (Nat.le_refl _)) (hc.below ((Below.refl _ _).alloc (Nat.le_refl _) _) hgl) hcp hlim
  clear hh hr hE hc
  generalize l.length = N at *
  go_enter Tryz.func308, Tryz.ntmps308
  go_wp2_with (go_at_call 367; (with_reducible refine (H.out _).mono ?_); rintro e w2 ⟨o2, cp2, rfl, hb⟩; obtain ⟨hc, hf⟩ := bcell hb; have hz : w.heap.size < w2.heap.size := (by have := hb.size; simp at this; omega))
  have hrow : w2.heap[w.heap.size]? = some (.cells #[.int .u64 0, .string ⟨#[]⟩, .int .i64 0, .slice none 0 0] 213 (0, 0)) := (hb.block w.heap.size (by simp)).trans (heap_alloc_last w _)
  have h5 := row4 (row4 hrow (.int .u64 code) (.string ⟨#[]⟩) (.int .i64 m) (.slice (some ⟨g, o2, none⟩) m cp2)) (.int .u64 code) (.string ⟨#[]⟩) (.int .i64 m) (.slice (some ⟨g, o2, none⟩) m cp2)
  have hb5 := below4 (below4 (below_under hb) (Nat.le_refl _) (.int .u64 code) (.string ⟨#[]⟩) (.int .i64 m) (.slice (some ⟨g, o2, none⟩) m cp2)) (Nat.le_refl _) (.int .u64 code) (.string ⟨#[]⟩) (.int .i64 m) (.slice (some ⟨g, o2, none⟩) m cp2)
  refine bodyPost_ret (v := .tuple #[.agg #[.int .u64 code, .string ⟨#[]⟩, .int .i64 m, .slice (some ⟨g, o2, none⟩) m cp2], .nilIface]) (results308 _ _ w.heap.size (.int .u64 code) (.string ⟨#[]⟩) (.int .i64 m) (.slice (some ⟨g, o2, none⟩) m cp2) .nilIface rfl rfl (by simp [World.cell?, h5]) (by simp [World.cell?, h5]) (by simp [World.cell?, h5]) (by simp [World.cell?, h5])) rfl ?_
  exact ⟨o2, cp2, rfl, hb5⟩

set_option maxRecDepth 100000 in
set_option maxHeartbeats 4000000 in
theorem mhDecN (l : List UInt8) (hr : mhRead l = none) (g o cp : Nat) (w : World) (hE : Errs w) (hc : At w g o l) (hl : 0 < l.length) (hcp : l.length ≤ cp) (hlim : l.length ≤ 1000000) :
    Calls Tryz.prog 308 #[.slice (some ⟨g, o, none⟩) l.length cp] w fun e w' => ∃ (x0 : Int) (x1 : ByteArray) (x2 : Int) (pa : Option Addr) (na ca : Nat) (t : TypeId) (p : Value), e = .returned (.tuple #[.agg #[.int .u64 x0, .string x1, .int .i64 x2, .slice pa na ca], .iface t p]) ∧ Below w.heap.size w w' := by
  have hgl := hc.lt hl
  cases hh : mhHead l with
  | none =>
    have H : Hid (∀ ob, Calls Tryz.prog 367 #[.slice (some ⟨g, o, none⟩) l.length cp] (w.alloc ob) fun e w' => ∃ t p, e = .returned (.tuple #[.int .i64 0, .int .u64 0, .slice none 0 0, .iface t p]) ∧ Below (w.alloc ob).heap.size (w.alloc ob) w') := Lib.hid fun ob =>
      mhBufN l hh g o cp _ (hE.below ((Below.refl _ _).alloc (Nat.le_refl _) _) (Nat.le_refl _)) (hc.below ((Below.refl _ _).alloc (Nat.le_refl _) _) hgl) hcp hlim
    clear hh hr hE hc
    generalize l.length = N at *
    go_enter Tryz.func308, Tryz.ntmps308
    go_wp2_with (go_at_call 367; (with_reducible refine (H.out _).mono ?_); rintro e w2 ⟨t, p, rfl, hb⟩; obtain ⟨hc, hf⟩ := bcell hb; have hz : w.heap.size < w2.heap.size := (by have := hb.size; simp at this; omega))
    have hrow : w2.heap[w.heap.size]? = some (.cells #[.int .u64 0, .string ⟨#[]⟩, .int .i64 0, .slice none 0 0] 213 (0, 0)) := (hb.block w.heap.size (by simp)).trans (heap_alloc_last w _)
    have h5 := row4 hrow (.int .u64 0) (.string ⟨#[]⟩) (.int .i64 0) (.slice none 0 0)
    have hb5 := below4 (below_under hb) (Nat.le_refl _) (.int .u64 0) (.string ⟨#[]⟩) (.int .i64 0) (.slice none 0 0)
    refine bodyPost_ret (v := .tuple #[.agg #[.int .u64 0, .string ⟨#[]⟩, .int .i64 0, .slice none 0 0], .iface t p]) (results308 _ _ w.heap.size (.int .u64 0) (.string ⟨#[]⟩) (.int .i64 0) (.slice none 0 0) (.iface t p) rfl rfl (by simp [World.cell?, h5]) (by simp [World.cell?, h5]) (by simp [World.cell?, h5]) (by simp [World.cell?, h5])) rfl ?_
    exact ⟨0, ⟨#[]⟩, 0, none, 0, 0, t, p, rfl, hb5⟩
  | some x =>
    obtain ⟨code, m, r⟩ := x
    have hrl : r ≠ l.length := by
      intro e
      rw [mhRead_head, hh] at hr
      simp [e] at hr
    have H : Hid (∀ ob, Calls Tryz.prog 367 #[.slice (some ⟨g, o, none⟩) l.length cp] (w.alloc ob) fun e w' => ∃ o2 cp2, e = .returned (.tuple #[.int .i64 r, .int .u64 code, .slice (some ⟨g, o2, none⟩) m cp2, .nilIface]) ∧ Below (w.alloc ob).heap.size (w.alloc ob) w') := Lib.hid fun ob =>
      mhBufY l code m r hh g o cp _ (hE.below ((Below.refl _ _).alloc (Nat.le_refl _) _) (Nat.le_refl _)) (hc.below ((Below.refl _ _).alloc (Nat.le_refl _) _) hgl) hcp hlim
    have e1 : ((l.length : Int) != (r : Int)) = true := by
      have : (l.length : Int) ≠ (r : Int) := by omega
      simpa using this
    clear hh hr hE hc hrl
    generalize l.length = N at *
    go_enter Tryz.func308, Tryz.ntmps308
    go_wp2_with (go_at_call 367; (with_reducible refine (H.out _).mono ?_); rintro e w2 ⟨o2, cp2, rfl, hb⟩; obtain ⟨hc, hf⟩ := bcell hb; have hz : w.heap.size < w2.heap.size := (by have := hb.size; simp at this; omega))
    have hrow : w2.heap[w.heap.size]? = some (.cells #[.int .u64 0, .string ⟨#[]⟩, .int .i64 0, .slice none 0 0] 213 (0, 0)) := (hb.block w.heap.size (by simp)).trans (heap_alloc_last w _)
    have h5 := row4 (row4 hrow (.int .u64 code) (.string ⟨#[]⟩) (.int .i64 m) (.slice (some ⟨g, o2, none⟩) m cp2)) (.int .u64 code) (.string ⟨#[]⟩) (.int .i64 m) (.slice (some ⟨g, o2, none⟩) m cp2)
    have hb5 := below4 (below4 (below_under hb) (Nat.le_refl _) (.int .u64 code) (.string ⟨#[]⟩) (.int .i64 m) (.slice (some ⟨g, o2, none⟩) m cp2)) (Nat.le_refl _) (.int .u64 code) (.string ⟨#[]⟩) (.int .i64 m) (.slice (some ⟨g, o2, none⟩) m cp2)
    refine bodyPost_ret (v := .tuple #[.agg #[.int .u64 code, .string ⟨#[]⟩, .int .i64 m, .slice (some ⟨g, o2, none⟩) m cp2], .iface 296 _]) (results308 _ _ w.heap.size (.int .u64 code) (.string ⟨#[]⟩) (.int .i64 m) (.slice (some ⟨g, o2, none⟩) m cp2) (.iface 296 _) rfl rfl (by simp [World.cell?, h5]) (by simp [World.cell?, h5]) (by simp [World.cell?, h5]) (by simp [World.cell?, h5])) rfl ?_
    exact ⟨code, ⟨#[]⟩, m, some ⟨g, o2, none⟩, m, cp2, 296, _, rfl, hb5⟩

set_option maxRecDepth 100000 in
set_option maxHeartbeats 4000000 in
theorem mhDecodeY (l : List UInt8) (code m : Nat) (hr : mhRead l = some (code, m)) (g o cp : Nat) (w : World) (hE : Errs w) (hc : At w g o l) (hcp : l.length ≤ cp) (hlim : l.length ≤ 1000000) :
    Calls Tryz.prog 262 #[.slice (some ⟨g, o, none⟩) l.length cp] w fun e w' => ∃ q, e = .returned (.tuple #[.pointer (some ⟨q, 0, none⟩), .nilIface]) ∧ w'.cell? ⟨q, 0, none⟩ = some (.int .u64 code) ∧ w'.cell? ⟨q, 2, none⟩ = some (.int .i64 m) ∧ Below w.heap.size w w' := by
  have H := Lib.hid (mhDecY l code m hr g o cp w hE hc hcp hlim)
  clear hr hE hc
  generalize l.length = N at *
  go_enter Tryz.func262, Tryz.ntmps262
  go_wp2_with (go_at_call 308; (with_reducible refine H.out.mono ?_); rintro e w2 ⟨o2, cp2, rfl, hb⟩)
  go_ret2
  exact ⟨w2.heap.size, rfl, by simp [go_sem], by simp [go_sem], hb.alloc hb.size _⟩

set_option maxRecDepth 100000 in
set_option maxHeartbeats 4000000 in
theorem mhDecodeN (l : List UInt8) (hr : mhRead l = none) (g o cp : Nat) (w : World) (hE : Errs w) (hc : At w g o l) (hl : 0 < l.length) (hcp : l.length ≤ cp) (hlim : l.length ≤ 1000000) :
    Calls Tryz.prog 262 #[.slice (some ⟨g, o, none⟩) l.length cp] w fun e w' => ∃ t p, e = .returned (.tuple #[.pointer none, .iface t p]) ∧ Below w.heap.size w w' := by
  have H := Lib.hid (mhDecN l hr g o cp w hE hc hl hcp hlim)
  clear hr hE hc hl
  generalize l.length = N at *
  go_enter Tryz.func262, Tryz.ntmps262
  go_wp2_with (go_at_call 308; (with_reducible refine H.out.mono ?_); rintro e w2 ⟨x0, x1, x2, pa, na, ca, t, p, rfl, hb⟩)
  go_ret2
  exact ⟨t, p, rfl, hb.alloc hb.size _⟩

set_option maxRecDepth 100000 in
set_option maxHeartbeats 4000000 in
theorem mhCastY (l : List UInt8) (code m : Nat) (hr : mhRead l = some (code, m)) (g o cp : Nat) (w : World) (hE : Errs w) (hc : At w g o l) (hcp : l.length ≤ cp) (hlim : l.length ≤ 1000000) :
    Calls Tryz.prog 271 #[.slice (some ⟨g, o, none⟩) l.length cp] w fun e w' => e = .returned (.tuple #[.slice (some ⟨g, o, none⟩) l.length cp, .nilIface]) ∧ Below w.heap.size w w' := by
  have H := Lib.hid (mhDecodeY l code m hr g o cp w hE hc hcp hlim)
  clear hr hE hc
  generalize l.length = N at *
  go_enter Tryz.func271, Tryz.ntmps271
  go_wp2_with (go_at_call 262; (with_reducible refine H.out.mono ?_); rintro e w2 ⟨q, rfl, _, _, hb⟩)
  go_ret2
  exact ⟨rfl, hb⟩

set_option maxRecDepth 100000 in
set_option maxHeartbeats 4000000 in
theorem mhCastN (l : List UInt8) (hr : mhRead l = none) (g o cp : Nat) (w : World) (hE : Errs w) (hc : At w g o l) (hl : 0 < l.length) (hcp : l.length ≤ cp) (hlim : l.length ≤ 1000000) :
    Calls Tryz.prog 271 #[.slice (some ⟨g, o, none⟩) l.length cp] w fun e w' => ∃ pa na ca t p, e = .returned (.tuple #[.slice pa na ca, .iface t p]) ∧ Below w.heap.size w w' := by
  have H := Lib.hid (mhDecodeN l hr g o cp w hE hc hl hcp hlim)
  clear hr hE hc hl
  generalize l.length = N at *
  go_enter Tryz.func271, Tryz.ntmps271
  go_wp2_with (go_at_call 262; (with_reducible refine H.out.mono ?_); rintro e w2 ⟨t, p, rfl, hb⟩)
  go_ret2
  exact ⟨_, _, _, t, p, rfl, hb.alloc hb.size _⟩

set_option maxRecDepth 100000 in
set_option maxHeartbeats 4000000 in
theorem val228Y (l : List UInt8) (h : mhOk l = true) (hlim : l.length ≤ 1000000) : ValY 228 l := by
  intro w g o cp hcp he hc
  cases hr : mhRead l with
  | none => rw [mhOk, hr] at h; cases h
  | some x =>
    obtain ⟨code, m⟩ := x
    have H := Lib.hid (mhDecodeY l code m hr g o cp w he.errs hc hcp hlim)
    clear hr he hc h
    generalize l.length = N at *
    go_enter Tryz.func228, Tryz.ntmps228
    go_wp2_with (go_at_call 262; (with_reducible refine H.out.mono ?_); rintro e w2 ⟨q, rfl, _, _, hb⟩)
    go_ret
    exact ⟨rfl, hb⟩
set_option maxRecDepth 100000 in
set_option maxHeartbeats 4000000 in
theorem val228N (l : List UInt8) (h : mhOk l = false) (hl : 0 < l.length) (hlim : l.length ≤ 1000000) : ValN 228 l := by
  intro w g o cp hcp he hc
  cases hr : mhRead l with
  | some x => rw [mhOk, hr] at h; cases h
  | none =>
    have H := Lib.hid (mhDecodeN l hr g o cp w he.errs hc hl hcp hlim)
    clear hr he hc h hl
    generalize l.length = N at *
    go_enter Tryz.func228, Tryz.ntmps228
    go_wp2_with (go_at_call 262; (with_reducible refine H.out.mono ?_); rintro e w2 ⟨t, p, rfl, hb⟩)
    go_ret
    exact ⟨t, p, rfl, hb⟩

set_option maxRecDepth 100000 in
set_option maxHeartbeats 4000000 in
theorem val234N0 (l : List UInt8) (hr : mhRead l = none) (hl : 0 < l.length) (hlim : l.length ≤ 1000000) : ValN 234 l := by
  intro w g o cp hcp he hc
  have H := Lib.hid (mhDecodeN l hr g o cp w he.errs hc hl hcp hlim)
  clear hr he hc hl
  generalize l.length = N at *
  go_enter Tryz.func234, Tryz.ntmps234
  go_wp2_with (first
    | (go_at_call 262; (with_reducible refine H.out.mono ?_); rintro e w2 ⟨t, p, rfl, hb⟩)
    | (go_at_call 52; (with_reducible refine (errorsNew _ _).mono ?_); rintro e w5 ⟨t5, p5, rfl, hb5⟩))
  go_ret
  exact ⟨t5, p5, rfl, hb.trans (hb5.mono hb.size)⟩
set_option maxRecDepth 100000 in
set_option maxHeartbeats 4000000 in
theorem val234Y (l : List UInt8) (code m : Nat) (hr : mhRead l = some (code, m)) (h : (code = 18 ∧ m = 32) ∨ code = 0) (hlim : l.length ≤ 1000000) : ValY 234 l := by
  intro w g o cp hcp he hc
  have H := Lib.hid (mhDecodeY l code m hr g o cp w he.errs hc hcp hlim)
  clear hr he hc
  generalize l.length = N at *
  rcases h with ⟨rfl, rfl⟩ | rfl
  all_goals
    go_enter Tryz.func234, Tryz.ntmps234
    go_wp2_with (go_at_call 262; (with_reducible refine H.out.mono ?_); rintro e w2 ⟨q, rfl, c0, c2, hb⟩)
    go_ret
    exact ⟨rfl, hb⟩
set_option maxRecDepth 100000 in
set_option maxHeartbeats 4000000 in
theorem val234N (l : List UInt8) (code m : Nat) (hr : mhRead l = some (code, m)) (h : ¬ ((code = 18 ∧ m = 32) ∨ code = 0)) (hlim : l.length ≤ 1000000) : ValN 234 l := by
  intro w g o cp hcp he hc
  have H := Lib.hid (mhDecodeY l code m hr g o cp w he.errs hc hcp hlim)
  clear hr he hc
  generalize l.length = N at *
  by_cases h18 : code = 18
  · have hm : m ≠ 32 := fun e => h (Or.inl ⟨h18, e⟩)
    subst h18
    have e1 : ((m : Int) != 32) = true := by
      have : (m : Int) ≠ 32 := by omega
      simpa using this
    clear h hm
    go_enter Tryz.func234, Tryz.ntmps234
    go_wp2_with (first
      | (go_at_call 262; (with_reducible refine H.out.mono ?_); rintro e w2 ⟨q, rfl, c0, c2, hb⟩)
      | (go_at_call 52; (with_reducible refine (errorsNew _ _).mono ?_); rintro e w5 ⟨t5, p5, rfl, hb5⟩))
    go_ret
    exact ⟨t5, p5, rfl, hb.trans (hb5.mono hb.size)⟩
  · have h0 : code ≠ 0 := fun e => h (Or.inr e)
    have e1 : ((code : Int) != 18) = true := by
      have : (code : Int) ≠ 18 := by omega
      simpa using this
    have e2 : ((code : Int) != 0) = true := by
      have : (code : Int) ≠ 0 := by omega
      simpa using this
    clear h h18 h0
    go_enter Tryz.func234, Tryz.ntmps234
    go_wp2_with (first
      | (go_at_call 262; (with_reducible refine H.out.mono ?_); rintro e w2 ⟨q, rfl, c0, c2, hb⟩)
      | (go_at_call 52; (with_reducible refine (errorsNew _ _).mono ?_); rintro e w5 ⟨t5, p5, rfl, hb5⟩))
    go_ret
    exact ⟨t5, p5, rfl, hb.trans (hb5.mono hb.size)⟩
end Go.Proofs.YtnpcmmjdojdmnaaGreatDoor
