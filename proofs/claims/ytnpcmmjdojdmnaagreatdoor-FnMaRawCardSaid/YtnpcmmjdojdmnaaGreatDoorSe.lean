/- readComponent (55) at bytes that do not begin with a component: the code, a value of fixed length. readComponent (55) at bytes that do not begin with a component: a value of varying length. readComponent (55) at any bytes: what readC says. readMultiaddr (53) at any bytes. readMultiaddr (53) at any bytes: the walk. -/
import Derived.Test.YtnpcmmjdojdmnaaGreatDoorSd
import Derived.Test.YtnpcmmjdojdmnaaGreatDoorQr
import Derived.Test.YtnpcmmjdojdmnaaGreatDoorSb
import Derived.Test.YtnpcmmjdojdmnaaGreatDoorQi
import Derived.Test.YtnpcmmjdojdmnaaGreatDoorRf
namespace Go.Proofs.YtnpcmmjdojdmnaaGreatDoor
open Go Go.RowKit Go.Sort

set_option maxRecDepth 100000 in
set_option maxHeartbeats 4000000 in
theorem errorsNew (s : ByteArray) (w : World) : Calls Tryz.prog 52 #[.string s] w fun e w' => ∃ t p, e = .returned (.iface t p) ∧ Below w.heap.size w w' := by
  go_enter Tryz.func52, Tryz.ntmps52
  go_wp2
  go_ret
  exact ⟨_, _, rfl, (Below.refl _ _).alloc (Nat.le_refl _) _⟩

set_option maxRecDepth 100000 in
set_option maxHeartbeats 4000000 in
theorem rcE_code (b : List UInt8) (hr : rdCode b = none) (g o cp : Nat) (w : World) (he : Env w) (hc : At w g o b) :
    Calls Tryz.prog 55 #[.slice (some ⟨g, o, none⟩) b.length cp] w fun e w' => ∃ t p, e = .returned (.tuple #[.int .i64 0, .pointer none, .iface t p]) ∧ Below w.heap.size w w' := by
  have H74 := Lib.hid (readVarintCode g o b.length cp b w rfl hc he.errs)
  rw [hr] at H74
  clear hr he hc
  go_enter Tryz.func55, Tryz.ntmps55
  go_wp2_with (go_at_call 74; (with_reducible refine H74.out.mono ?_); rintro e w1 ⟨⟨t, p, rfl⟩, hb1⟩)
  go_ret3
  exact ⟨t, p, rfl, hb1⟩

set_option maxRecDepth 100000 in
set_option maxHeartbeats 4000000 in
theorem rcE_unknown (b : List UInt8) (v n : Nat) (hr : rdCode b = some (v, n)) (hk : known v = false) (g o cp : Nat) (w : World) (he : Env w) (hc : At w g o b) :
    Calls Tryz.prog 55 #[.slice (some ⟨g, o, none⟩) b.length cp] w fun e w' => ∃ t p, e = .returned (.tuple #[.int .i64 0, .pointer none, .iface t p]) ∧ Below w.heap.size w w' := by
  have H74 := Lib.hid (readVarintCode g o b.length cp b w rfl hc he.errs)
  rw [hr] at H74
  have HH47 := Lib.hid (protocolWithCode_none v hk)
  obtain ⟨-, -, hn, -⟩ := rdCode_some hr
  have hn10 : n ≤ 10 := by rw [hn]; exact Lib.uvarint_length64 (by have := (rdCode_some hr).choose_spec.2.2; omega)
  have q1 : IntKind.i64.wrap (n : Int) = n := IntWalk.i64_in _ (by omega)
  clear hr he hc hk hn
  go_enter Tryz.func55, Tryz.ntmps55
  go_wp2_with (first
    | (go_at_call 74; (with_reducible refine H74.out.mono ?_); rintro e w1 ⟨rfl, hb1⟩)
    | (go_at_call 47; (with_reducible refine (HH47.out _).mono ?_); rintro e w2 ⟨rfl, hb2⟩)
    | (go_at_call 52; (with_reducible refine (errorsNew _ _).mono ?_); rintro e w3 ⟨t, p, rfl, hb3⟩))
  go_ret3
  have hb12 : Below w.heap.size w w2 := hb1.trans (hb2.mono hb1.size)
  exact ⟨t, p, rfl, (hb12.alloc hb12.size _).trans (hb3.mono (by have := hb12.size; simp; omega))⟩

set_option maxRecDepth 100000 in
set_option maxHeartbeats 8000000 in
theorem rcE_fix (b : List UInt8) (v n : Nat) (hr : rdCode b = some (v, n)) (hk : known v = true) (hz : 0 < psz v) (hs : (b.drop n).length < (psz v).toNat / 8) (g o cp : Nat) (w : World) (he : Env w) (hc : At w g o b) (hcp : b.length ≤ cp) (hlim : b.length ≤ 1000000) :
    Calls Tryz.prog 55 #[.slice (some ⟨g, o, none⟩) b.length cp] w fun e w' => ∃ t p, e = .returned (.tuple #[.int .i64 0, .pointer none, .iface t p]) ∧ Below w.heap.size w w' := by
  have H74 := Lib.hid (readVarintCode g o b.length cp b w rfl hc he.errs)
  rw [hr] at H74
  have H47 := protocolWithCode v hk
  have HH71 := Lib.hid (zzPtr v hk)
  have hne := known_ne hk
  obtain ⟨r0, hb0, hn, hv⟩ := rdCode_some hr
  have hn1 : 1 ≤ n := by rw [hn]; exact Lib.uvarint_pos _
  have hn10 : n ≤ 10 := by rw [hn]; exact Lib.uvarint_length64 (by omega)
  have hnb : n ≤ b.length := by rw [hb0, List.length_append, ← hn]; omega
  have hgl : g < w.heap.size := hc.lt (by omega)
  obtain ⟨N, hN⟩ : ∃ N, N = b.length := ⟨_, rfl⟩
  have hT' := tcv_form v
  have hpz := psz_nat (c := v) (by omega)
  obtain ⟨m, hm⟩ : ∃ m, m = (psz v).toNat / 8 := ⟨_, rfl⟩
  rw [← hm] at hpz hs
  rw [List.length_drop, ← hN] at hs
  rw [hpz] at H47
  have hm1 : 1 ≤ m := by omega
  have hm2 : m ≤ 100 := by
    rcases psz_of v with h | ⟨k, h1, h2⟩ <;> omega
  rw [← hN] at H74 hcp hlim hnb ⊢
  have HH47 := Lib.hid H47
  clear H47 hN hr he hc hk hn hv hb0 hm hz
  generalize pname (v : Int) = nm at *
  generalize ppath (v : Int) = pth at *
  have q1 : IntKind.i64.wrap (n : Int) = n := IntWalk.i64_in _ (by omega)
  have q6 : (0 : Int) ≤ (n : Int) := by omega
  have q7 : (n : Int) ≤ (N : Int) := by omega
  have q2 : ((m : Int) * 8 == 0) = false := by simp; omega
  have q3 : decide ((m : Int) * 8 < 0) = false := by simp; omega
  have q4 : ((m : Int) * 8).tdiv 8 = (m : Int) := Int.mul_tdiv_cancel _ (by decide)
  have q5 : IntKind.i64.wrap (m : Int) = m := IntWalk.i64_in _ (by omega)
  have q8 : decide (((N - n : Nat) : Int) < (m : Int)) = true := by simp; omega
  generalize tcv (v : Int) = tv at *
  rcases Decidable.em (n = cp) with rfl | hcn
  all_goals
    rcases hT' with rfl | ⟨tx, rfl⟩
    all_goals
      go_enter Tryz.func55, Tryz.ntmps55
      go_wp2_with (first
        | (go_at_call 74; (with_reducible refine H74.out.mono ?_); rintro e w1 ⟨rfl, hb1⟩)
        | (go_at_call 47; (with_reducible refine (HH47.out _).mono ?_); rintro e w2 ⟨vc, rfl, ⟨g2, hg1, hg2, rfl, hg4⟩, hb2⟩; refine Hid.out ?_))
      refine Lib.hid ?_
      have hb12 : Below w.heap.size w w2 := hb1.trans (hb2.mono hb1.size)
      go_wp2_with (first
        | (go_at_call 71; (with_reducible refine (HH71.out _).mono ?_); rintro e w3 ⟨pp, rfl, hp3, hb3⟩; obtain ⟨hc3, hf3⟩ := bcell hb3; have hbw3 : Below w.heap.size w w3 := (hb12.alloc hb12.size _).trans (hb3.mono (by have := hb12.size; simp; omega)))
        | (go_at_call 52; (with_reducible refine (errorsNew _ _).mono ?_); rintro e w5 ⟨t, p, rfl, hb5⟩))
      go_ret3
      exact ⟨t, p, rfl, hbw3.trans (hb5.mono hbw3.size)⟩

end Go.Proofs.YtnpcmmjdojdmnaaGreatDoor
namespace Go.Proofs.YtnpcmmjdojdmnaaGreatDoor
open Go Go.RowKit Go.Sort


set_option maxRecDepth 100000 in
set_option maxHeartbeats 8000000 in
theorem rcE_vcode (b : List UInt8) (v n : Nat) (hr : rdCode b = some (v, n)) (hk : known v = true) (hz : psz v < 0) (hr2 : rdCode (b.drop n) = none) (g o cp : Nat) (w : World) (he : Env w) (hc : At w g o b) (hcp : b.length ≤ cp) (hlim : b.length ≤ 1000000) :
    Calls Tryz.prog 55 #[.slice (some ⟨g, o, none⟩) b.length cp] w fun e w' => ∃ t p, e = .returned (.tuple #[.int .i64 0, .pointer none, .iface t p]) ∧ Below w.heap.size w w' := by
  have H74 := Lib.hid (readVarintCode g o b.length cp b w rfl hc he.errs)
  rw [hr] at H74
  have H47 := protocolWithCode v hk
  have HH71 := Lib.hid (zzPtr v hk)
  have hne := known_ne hk
  obtain ⟨r0, hb0, hn, hv⟩ := rdCode_some hr
  have hn1 : 1 ≤ n := by rw [hn]; exact Lib.uvarint_pos _
  have hn10 : n ≤ 10 := by rw [hn]; exact Lib.uvarint_length64 (by omega)
  have hnb : n ≤ b.length := by rw [hb0, List.length_append, ← hn]; omega
  have hgl : g < w.heap.size := hc.lt (by omega)
  obtain ⟨N, hN⟩ : ∃ N, N = b.length := ⟨_, rfl⟩
  have hT' := tcv_form v
  have hm8 : psz v = -1 := psz_neg hz
  rw [hm8] at H47
  have hAt2 : At w g (o + n) (b.drop n) := by
    have : b = b.take n ++ b.drop n := (List.take_append_drop n b).symm
    rw [this] at hc
    have h2 := hc.drop
    rwa [List.length_take, Nat.min_eq_left hnb] at h2
  have hlen2 : (b.drop n).length = N - n := by rw [List.length_drop, hN]
  have H74b : Hid (∀ w' o' cp', Below w.heap.size w w' → At w' g o' (b.drop n) → Calls Tryz.prog 74 #[.slice (some ⟨g, o', none⟩) (N - n) cp'] w' fun e w'' => (∃ t p, e = .returned (.tuple #[.int .i64 0, .int .i64 0, .iface t p])) ∧ Below w'.heap.size w' w'') := Lib.hid fun w' o' cp' hb hat => by
    refine (readVarintCode g o' _ cp' _ w' hlen2 hat (he.up hb).errs).mono ?_
    rw [hr2]
    rintro e w'' ⟨h, hb2⟩
    exact ⟨h, hb2⟩
  have H740 : Hid (∀ w', Below w.heap.size w w' → Calls Tryz.prog 74 #[.slice (some ⟨g, o, none⟩) 0 0] w' fun e w'' => (∃ t p, e = .returned (.tuple #[.int .i64 0, .int .i64 0, .iface t p])) ∧ Below w'.heap.size w' w'') := Lib.hid fun w' hb => by
    refine (readVarintCode g o 0 0 [] w' rfl (fun j hj => absurd hj (Nat.not_lt_zero j)) (he.up hb).errs).mono ?_
    rintro e w'' ⟨h, hb2⟩
    exact ⟨h, hb2⟩
  have HA : Hid (∀ w', Below w.heap.size w w' → At w' g (o + n) (b.drop n)) := Lib.hid fun w' hb => hAt2.below hb hgl
  rw [← hN] at H74 hcp hlim hnb ⊢
  have HH47 := Lib.hid H47
  clear H47 hN hr he hc hk hn hv hb0 hz hm8 hAt2 hlen2 hr2
  generalize pname (v : Int) = nm at *
  generalize ppath (v : Int) = pth at *
  have q1 : IntKind.i64.wrap (n : Int) = n := IntWalk.i64_in _ (by omega)
  have q6 : (0 : Int) ≤ (n : Int) := by omega
  have q7 : (n : Int) ≤ (N : Int) := by omega
  generalize tcv (v : Int) = tv at *
  rcases Decidable.em (n = cp) with rfl | hcn
  all_goals
    rcases hT' with rfl | ⟨tx, rfl⟩
    all_goals
      go_enter Tryz.func55, Tryz.ntmps55
      go_wp2_with (first
        | (go_at_call 74; (with_reducible refine H74.out.mono ?_); rintro e w1 ⟨rfl, hb1⟩)
        | (go_at_call 47; (with_reducible refine (HH47.out _).mono ?_); rintro e w2 ⟨vc, rfl, ⟨g2, hg1, hg2, rfl, hg4⟩, hb2⟩; refine Hid.out ?_))
      refine Lib.hid ?_
      have hb12 : Below w.heap.size w w2 := hb1.trans (hb2.mono hb1.size)
      go_wp2_with (first
        | (go_at_call 71; (with_reducible refine (HH71.out _).mono ?_); rintro e w3 ⟨pp, rfl, hp3, hb3⟩; obtain ⟨hc3, hf3⟩ := bcell hb3; have hbw3 : Below w.heap.size w w3 := (hb12.alloc hb12.size _).trans (hb3.mono (by have := hb12.size; simp; omega)))
        | (go_at_call 74; (with_reducible refine (H74b.out w3 _ _ hbw3 (HA.out w3 hbw3)).mono ?_); rintro e w4 ⟨⟨t, p, rfl⟩, hb4⟩)
        | (go_at_call 74; (with_reducible refine (H740.out w3 hbw3).mono ?_); rintro e w4 ⟨⟨t, p, rfl⟩, hb4⟩))
      go_ret3
      exact ⟨t, p, rfl, hbw3.trans (hb4.mono hbw3.size)⟩

set_option maxRecDepth 100000 in
set_option maxHeartbeats 8000000 in
theorem rcE_vshort (b : List UInt8) (v n : Nat) (hr : rdCode b = some (v, n)) (hk : known v = true) (hz : psz v < 0) (m k : Nat) (hr2 : rdCode (b.drop n) = some (m, k)) (hs : ((b.drop n).drop k).length < m ∨ m = 0) (g o cp : Nat) (w : World) (he : Env w) (hc : At w g o b) (hcp : b.length ≤ cp) (hlim : b.length ≤ 1000000) :
    Calls Tryz.prog 55 #[.slice (some ⟨g, o, none⟩) b.length cp] w fun e w' => ∃ t p, e = .returned (.tuple #[.int .i64 0, .pointer none, .iface t p]) ∧ Below w.heap.size w w' := by
  have H74 := Lib.hid (readVarintCode g o b.length cp b w rfl hc he.errs)
  rw [hr] at H74
  have H47 := protocolWithCode v hk
  have HH71 := Lib.hid (zzPtr v hk)
  have hne := known_ne hk
  obtain ⟨r0, hb0, hn, hv⟩ := rdCode_some hr
  have hn1 : 1 ≤ n := by rw [hn]; exact Lib.uvarint_pos _
  have hn10 : n ≤ 10 := by rw [hn]; exact Lib.uvarint_length64 (by omega)
  have hnb : n ≤ b.length := by rw [hb0, List.length_append, ← hn]; omega
  have hgl : g < w.heap.size := hc.lt (by omega)
  obtain ⟨N, hN⟩ : ∃ N, N = b.length := ⟨_, rfl⟩
  have hT' := tcv_form v
  have hm8 : psz v = -1 := psz_neg hz
  rw [hm8] at H47
  have hAt2 : At w g (o + n) (b.drop n) := by
    have : b = b.take n ++ b.drop n := (List.take_append_drop n b).symm
    rw [this] at hc
    have h2 := hc.drop
    rwa [List.length_take, Nat.min_eq_left hnb] at h2
  have hlen2 : (b.drop n).length = N - n := by rw [List.length_drop, hN]
  obtain ⟨r1, hb1', hk', hm'⟩ := rdCode_some hr2
  have hk1 : 1 ≤ k := by rw [hk']; exact Lib.uvarint_pos _
  have hk10 : k ≤ 10 := by rw [hk']; exact Lib.uvarint_length64 (by omega)
  have hkb : n + k ≤ N := by
    have h2 := congrArg List.length hb1'
    rw [hlen2, List.length_append, ← hk'] at h2
    omega
  have hs2 : N - (n + k) < m ∨ m = 0 := by
    rw [List.length_drop, List.length_drop, ← hN] at hs
    omega
  have H74b : Hid (∀ w' o' cp', Below w.heap.size w w' → At w' g o' (b.drop n) → Calls Tryz.prog 74 #[.slice (some ⟨g, o', none⟩) (N - n) cp'] w' fun e w'' => e = .returned (.tuple #[.int .i64 m, .int .i64 k, .nilIface]) ∧ Below w'.heap.size w' w'') := Lib.hid fun w' o' cp' hb hat => by
    refine (readVarintCode g o' _ cp' _ w' hlen2 hat (he.up hb).errs).mono ?_
    rw [hr2]
    rintro e w'' ⟨h, hb2⟩
    exact ⟨h, hb2⟩
  have HA : Hid (∀ w', Below w.heap.size w w' → At w' g (o + n) (b.drop n)) := Lib.hid fun w' hb => hAt2.below hb hgl
  rw [← hN] at H74 hcp hlim hnb ⊢
  have HH47 := Lib.hid H47
  clear H47 hN hr he hc hk hn hv hb0 hz hm8 hAt2 hlen2 hr2 hb1' hk' hs
  generalize pname (v : Int) = nm at *
  generalize ppath (v : Int) = pth at *
  have q1 : IntKind.i64.wrap (n : Int) = n := IntWalk.i64_in _ (by omega)
  have q6 : (0 : Int) ≤ (n : Int) := by omega
  have q7 : (n : Int) ≤ (N : Int) := by omega
  have r1 : IntKind.i64.wrap ((n : Int) + (k : Int)) = ((n + k : Nat) : Int) := by rw [IntWalk.i64_in _ (by omega)]; simp
  have r2 : (0 : Int) ≤ ((n + k : Nat) : Int) := by omega
  have r3 : ((n + k : Nat) : Int) ≤ (N : Int) := by omega
  generalize tcv (v : Int) = tv at *
  have hcn : ¬ n = cp := by omega
  all_goals
    rcases hT' with rfl | ⟨tx, rfl⟩
    all_goals
      go_enter Tryz.func55, Tryz.ntmps55
      go_wp2_with (first
        | (go_at_call 74; (with_reducible refine H74.out.mono ?_); rintro e w1 ⟨rfl, hb1⟩)
        | (go_at_call 47; (with_reducible refine (HH47.out _).mono ?_); rintro e w2 ⟨vc, rfl, ⟨g2, hg1, hg2, rfl, hg4⟩, hb2⟩; refine Hid.out ?_))
      refine Lib.hid ?_
      have hb12 : Below w.heap.size w w2 := hb1.trans (hb2.mono hb1.size)
      rcases hs2 with hs2 | hs2
      · have q8 : decide (((N - (n + k) : Nat) : Int) < (m : Int)) = true := by simp; omega
        go_wp2_with (first
          | (go_at_call 71; (with_reducible refine (HH71.out _).mono ?_); rintro e w3 ⟨pp, rfl, hp3, hb3⟩; obtain ⟨hc3, hf3⟩ := bcell hb3; have hbw3 : Below w.heap.size w w3 := (hb12.alloc hb12.size _).trans (hb3.mono (by have := hb12.size; simp; omega)))
          | (go_at_call 74; (with_reducible refine (H74b.out w3 _ _ hbw3 (HA.out w3 hbw3)).mono ?_); rintro e w4 ⟨rfl, hb4⟩)
          | (go_at_call 52; (with_reducible refine (errorsNew _ _).mono ?_); rintro e w5 ⟨t, p, rfl, hb5⟩))
        all_goals
          go_ret3
          have hbw4 : Below w.heap.size w w4 := hbw3.trans (hb4.mono hbw3.size)
          first
            | exact ⟨t, p, rfl, hbw4.trans (hb5.mono hbw4.size)⟩
            | exact ⟨⟨t, p, rfl⟩, hbw4.trans (hb5.mono hbw4.size)⟩
      · subst hs2
        go_wp2_with (first
          | (go_at_call 71; (with_reducible refine (HH71.out _).mono ?_); rintro e w3 ⟨pp, rfl, hp3, hb3⟩; obtain ⟨hc3, hf3⟩ := bcell hb3; have hbw3 : Below w.heap.size w w3 := (hb12.alloc hb12.size _).trans (hb3.mono (by have := hb12.size; simp; omega)))
          | (go_at_call 74; (with_reducible refine (H74b.out w3 _ _ hbw3 (HA.out w3 hbw3)).mono ?_); rintro e w4 ⟨rfl, hb4⟩)
          | (go_at_call 52; (with_reducible refine (errorsNew _ _).mono ?_); rintro e w5 ⟨t, p, rfl, hb5⟩))
        all_goals
          go_ret3
          have hbw4 : Below w.heap.size w w4 := hbw3.trans (hb4.mono hbw3.size)
          first
            | exact ⟨t, p, rfl, hbw4.trans (hb5.mono hbw4.size)⟩
            | exact ⟨⟨t, p, rfl⟩, hbw4.trans (hb5.mono hbw4.size)⟩

end Go.Proofs.YtnpcmmjdojdmnaaGreatDoor
namespace Go.Proofs.YtnpcmmjdojdmnaaGreatDoor
open Go Go.RowKit

/-- The transcoders do what chk says, at all values of the right lengths. -/
def AllTrans : Prop := ∀ (c : Int) (l : List UInt8), known c = true → psz c ≠ 0 → (psz c < 0 ∧ 1 ≤ l.length ∨ psz c = (l.length : Int) * 8) → l.length ≤ 1000000 → Trans c l

/-- What readComponent hands back. -/
def RcOut (r : Option (Int × List UInt8)) (B : Nat) (e : Ending) (w' : World) : Prop := match r with
  | some (c, l) => ∃ q, e = .returned (.tuple #[.int .i64 (compBytes c l).length, .pointer (some ⟨q, 0, none⟩), .nilIface]) ∧ CompK B w' q c l
  | none => ∃ t p, e = .returned (.tuple #[.int .i64 0, .pointer none, .iface t p])

theorem rc_all (HT : AllTrans) (b : List UInt8) (g o cp : Nat) (w : World) (he : Env w) (hc : At w g o b) (hcp : b.length ≤ cp) (hlim : b.length ≤ 1000000) :
    Calls Tryz.prog 55 #[.slice (some ⟨g, o, none⟩) b.length cp] w fun e w' => RcOut (readC b) w.heap.size e w' ∧ Below w.heap.size w w' := by
  have err : ∀ {e : Ending} {w' : World}, (∃ t p, e = .returned (.tuple #[.int .i64 0, .pointer none, .iface t p]) ∧ Below w.heap.size w w') → RcOut none w.heap.size e w' ∧ Below w.heap.size w w' := by
    rintro e w' ⟨t, p, h, hb⟩
    exact ⟨⟨t, p, h⟩, hb⟩
  have good : ∀ {c : Int} {l : List UInt8} {e : Ending} {w' : World}, (∃ q, e = .returned (.tuple #[.int .i64 (compBytes c l).length, .pointer (some ⟨q, 0, none⟩), .nilIface]) ∧ CompK w.heap.size w' q c l ∧ Below w.heap.size w w') → RcOut (some (c, l)) w.heap.size e w' ∧ Below w.heap.size w w' := by
    rintro c l e w' ⟨q, h, hq, hb⟩
    exact ⟨⟨q, h, hq⟩, hb⟩
  cases hr : readC b with
  | some x =>
    obtain ⟨c, l⟩ := x
    obtain ⟨⟨hk, hs⟩, r, rfl⟩ := readC_some hr
    have hl : l.length ≤ 1000000 := by
      rw [List.length_append, compBytes, List.length_append] at hlim
      omega
    rcases hs with ⟨hz, rfl⟩ | ⟨hz, hchk, ⟨hn, h1, h2⟩ | hm⟩
    · exact (rc_zeroY hk hz r g o cp w he hc hcp hlim).mono fun e w' h => good h
    · exact (rc_varY hk hn h1 h2 (HT c l hk hz (Or.inl ⟨hn, h1⟩) hl) hchk r g o cp w he hc hcp hlim).mono fun e w' h => good h
    · have h1 : 1 ≤ l.length := by omega
      exact (rc_fixY hk hm h1 (HT c l hk hz (Or.inr hm) hl) hchk r g o cp w he hc hcp hlim).mono fun e w' h => good h
  | none =>
    rw [readC] at hr
    cases hv : rdCode b with
    | none => exact (rcE_code b hv g o cp w he hc).mono fun e w' h => err h
    | some x =>
      obtain ⟨v, n⟩ := x
      rw [hv] at hr
      simp only at hr
      by_cases hk0 : known v = false
      · exact (rcE_unknown b v n hv hk0 g o cp w he hc).mono fun e w' h => err h
      rw [if_neg hk0] at hr
      have hk : known (v : Int) = true := by simpa using hk0
      by_cases hz : psz v = 0
      · rw [if_pos hz] at hr; cases hr
      rw [if_neg hz] at hr
      obtain ⟨r, hb, hn, hv31⟩ := rdCode_some hv
      have hdr : b.drop n = r := by rw [hb, hn, List.drop_left]
      by_cases hneg : psz v < 0
      · rw [if_pos hneg] at hr
        cases hm : rdCode (b.drop n) with
        | none => exact (rcE_vcode b v n hv hk hneg hm g o cp w he hc hcp hlim).mono fun e w' h => err h
        | some y =>
          obtain ⟨m, k⟩ := y
          rw [hm] at hr
          simp only at hr
          by_cases hs : ((b.drop n).drop k).length < m ∨ m = 0
          · exact (rcE_vshort b v n hv hk hneg m k hm hs g o cp w he hc hcp hlim).mono fun e w' h => err h
          rw [if_neg hs] at hr
          have hchk : chk v (((b.drop n).drop k).take m) = false := by
            cases hx : chk v (((b.drop n).drop k).take m) with
            | false => rfl
            | true => rw [hx] at hr; simp at hr
          obtain ⟨r2, hb2, hk2, hm31⟩ := rdCode_some hm
          have hdr2 : (b.drop n).drop k = r2 := by rw [hb2, hk2, List.drop_left]
          rw [hdr2] at hchk hs
          have hl : (r2.take m).length = m := by rw [List.length_take]; omega
          have hbb : b = compBytes v (r2.take m) ++ r2.drop m := by
            rw [compBytes, if_pos hneg, hl, Int.toNat_natCast, List.append_assoc, List.append_assoc, List.take_append_drop, ← hb2, hdr, ← hb]
          have hlen : m ≤ 1000000 := by
            have := congrArg List.length hbb
            rw [List.length_append, compBytes, List.length_append, hl] at this
            omega
          generalize r2.take m = l at *
          generalize r2.drop m = rest at *
          subst hbb
          exact (rc_varN hk hneg (by omega) (by omega) (HT v l hk hz (Or.inl ⟨hneg, by omega⟩) (by omega)) hchk rest g o cp w he hc hcp hlim).mono fun e w' h => err h
      · rw [if_neg hneg] at hr
        by_cases hs : (b.drop n).length < (psz v).toNat / 8
        · exact (rcE_fix b v n hv hk (by omega) hs g o cp w he hc hcp hlim).mono fun e w' h => err h
        rw [if_neg hs] at hr
        have hchk : chk v ((b.drop n).take ((psz v).toNat / 8)) = false := by
          cases hx : chk v ((b.drop n).take ((psz v).toNat / 8)) with
          | false => rfl
          | true => rw [hx] at hr; simp at hr
        have hpn := psz_nat (c := (v : Int)) hneg
        generalize (psz (v : Int)).toNat / 8 = m at *
        rw [hdr] at hchk hs
        have hl : (r.take m).length = m := by rw [List.length_take]; omega
        have hbb : b = compBytes v (r.take m) ++ r.drop m := by
          rw [compBytes, if_neg hneg, List.append_nil, Int.toNat_natCast, List.append_assoc, List.take_append_drop, ← hb]
        have hlen : m ≤ 1000000 := by
          have := congrArg List.length hbb
          rw [List.length_append, compBytes, List.length_append, hl] at this
          omega
        generalize r.take m = l at *
        generalize r.drop m = rest at *
        subst hbb
        exact (rc_fixN hk (by rw [hl]; exact hpn) (by omega) (HT v l hk hz (Or.inr (by rw [hl]; exact hpn)) (by omega)) hchk rest g o cp w he hc hcp hlim).mono fun e w' h => err h
end Go.Proofs.YtnpcmmjdojdmnaaGreatDoor
namespace Go.Proofs.YtnpcmmjdojdmnaaGreatDoor
open Go Go.RowKit

theorem kst_head (c : Int) (l : List UInt8) : kst c l = (headBytes c l.length).length := by
  rw [kst, headBytes, List.length_append]
  split <;> simp

theorem XsOf.ext {w : World} {cs : List (Int × List UInt8)} {k : Nat} {xs : List Value} (h : XsOf w cs k xs) (hk : k ≤ cs.length) (z : List (Int × List UInt8)) : XsOf w (cs ++ z) k xs := fun j hj hc => by
  have hjc : j < cs.length := by omega
  obtain ⟨q, h1, h2, h3, h4⟩ := h j hj hjc
  have e : (cs ++ z)[j] = cs[j] := List.getElem_append_left hjc
  rw [e]
  exact ⟨q, h1, h2, h3, h4⟩

/-- Is the last component a path? -/
def sawB (cs : List (Int × List UInt8)) : Bool := match cs.getLast? with
  | some x => ppath x.1
  | none => false
theorem sawB_snoc (cs : List (Int × List UInt8)) (x : Int × List UInt8) : sawB (cs ++ [x]) = ppath x.1 := by simp [sawB]
theorem drop_last_snoc {cs : List (Int × List UInt8)} (h : ∀ x ∈ cs.dropLast, ppath x.1 = false) (hs : sawB cs = false) (x : Int × List UInt8) : ∀ y ∈ (cs ++ [x]).dropLast, ppath y.1 = false := by
  rw [List.dropLast_concat]
  intro y hy
  rcases List.eq_nil_or_concat cs with rfl | ⟨r, z, rfl⟩
  · cases hy
  · rw [List.concat_eq_append] at *
    rw [sawB_snoc] at hs
    rw [List.dropLast_concat] at h
    rcases List.mem_append.1 hy with hy | hy
    · exact h y hy
    · rw [List.mem_singleton] at hy; subst hy; exact hs

/-- What has been read, and what is left. -/
def RdSt (b : List UInt8) (done : List (Int × List UInt8)) (todo : List UInt8) : Prop := b = allBytes done ++ todo ∧ (∀ x ∈ done, OkC x.1 x.2) ∧ ∀ x ∈ done.dropLast, ppath x.1 = false

theorem RdSt.start (b : List UInt8) : RdSt b [] b := ⟨rfl, fun _x hx => absurd hx List.not_mem_nil, fun _x hx => absurd hx List.not_mem_nil⟩
theorem RdSt.split {b todo : List UInt8} {done : List (Int × List UInt8)} (h : RdSt b done todo) {cs : List (Int × List UInt8)} (hcs : RdOk b cs) : ∃ r, cs = done ++ r ∧ todo = allBytes r :=
  all_split done cs todo (fun x hx => (h.2.1 x hx).okF) (fun x hx => (hcs.2.2.1 x hx).okF) (by rw [← h.1]; exact hcs.1)
theorem RdSt.none {b todo : List UInt8} {done : List (Int × List UInt8)} (h : RdSt b done todo) (hr : readC todo = none) (ht : todo ≠ []) : ¬ ∃ cs, RdOk b cs := by
  rintro ⟨cs, hcs⟩
  obtain ⟨r, rfl, hr2⟩ := h.split hcs
  cases r with
  | nil => exact ht hr2
  | cons x r =>
    rw [hr2, allBytes, readC_comp (hcs.2.2.1 x (by simp))] at hr
    cases hr
theorem RdSt.path {b todo : List UInt8} {done : List (Int × List UInt8)} (h : RdSt b done todo) (hs : sawB done = true) (ht : todo ≠ []) : ¬ ∃ cs, RdOk b cs := by
  rintro ⟨cs, hcs⟩
  obtain ⟨r, rfl, hr2⟩ := h.split hcs
  cases r with
  | nil => exact ht hr2
  | cons x r =>
    rcases List.eq_nil_or_concat done with rfl | ⟨d, z, rfl⟩
    · cases hs
    · rw [List.concat_eq_append] at *
      rw [sawB_snoc] at hs
      have := hcs.2.2.2 z (by
        rw [List.append_assoc, List.singleton_append, List.dropLast_append_of_ne_nil (by simp)]
        simp)
      rw [hs] at this
      cases this
theorem RdSt.step {b todo : List UInt8} {done : List (Int × List UInt8)} {c : Int} {l : List UInt8} (h : RdSt b done (compBytes c l ++ todo)) (hc : OkC c l) (hs : sawB done = false) : RdSt b (done ++ [(c, l)]) todo := by
  refine ⟨?_, ?_, drop_last_snoc h.2.2 hs _⟩
  · rw [h.1, allBytes_append, allBytes, allBytes, List.append_nil, List.append_assoc]
  · intro x hx
    rcases List.mem_append.1 hx with hx | hx
    · exact h.2.1 x hx
    · rw [List.mem_singleton] at hx; subst hx; exact hc
theorem RdSt.done {b : List UInt8} {done : List (Int × List UInt8)} (h : RdSt b done []) (hb : b ≠ []) : RdOk b done := by
  have h1 := h.1
  rw [List.append_nil] at h1
  refine ⟨h1, ?_, h.2.1, h.2.2⟩
  rintro rfl
  exact hb h1
theorem allBytes_len (z : List (Int × List UInt8)) : z.length ≤ (allBytes z).length := by
  induction z with
  | nil => simp [allBytes]
  | cons y z ih =>
    rw [allBytes, List.length_append, List.length_cons]
    have := compBytes_pos y.1 y.2
    omega
theorem no_rd_nil : ¬ ∃ cs, RdOk [] cs := by
  rintro ⟨cs, h1, h2, _⟩
  have := allBytes_len cs
  rw [← h1] at this
  cases cs with
  | nil => exact h2 rfl
  | cons => simp at this

/-- What readMultiaddr hands back: the components of the bytes, or an error. -/
def RmOut (b : List UInt8) (B : Nat) (e : Ending) (w' : World) : Prop :=
  (∃ cs bb cap, RdOk b cs ∧ e = .returned (.tuple #[.int .i64 b.length, .slice (some ⟨bb, 0, none⟩) cs.length cap, .nilIface]) ∧ B ≤ bb ∧ bb < w'.heap.size ∧ cs.length ≤ cap ∧ MAt w' bb 0 cs) ∨
  ((¬ ∃ cs, RdOk b cs) ∧ ∃ (n : Int) (t : TypeId) (p : Value), e = .returned (.tuple #[.int .i64 n, .slice none 0 0, .iface t p]))
end Go.Proofs.YtnpcmmjdojdmnaaGreatDoor
namespace Go.Proofs.YtnpcmmjdojdmnaaGreatDoor
open Go Go.RowKit Go.Sort

set_option maxRecDepth 100000 in
set_option maxHeartbeats 8000000 in
theorem readMultiaddr_empty (g : Option Addr) (cp : Nat) (w : World) :
    Calls Tryz.prog 53 #[.slice g 0 cp] w fun e w' => RmOut [] w.heap.size e w' ∧ Below w.heap.size w w' := by
  go_enter Tryz.func53, Tryz.ntmps53
  go_wp2_with (go_at_call 52; (with_reducible refine (errorsNew _ _).mono ?_); rintro e w1 ⟨t, p, rfl, hb1⟩)
  go_ret3
  exact ⟨Or.inr ⟨no_rd_nil, 0, t, p, rfl⟩, hb1⟩

set_option maxRecDepth 100000 in
set_option maxHeartbeats 16000000 in
theorem readMultiaddrA (HT : AllTrans) (b : List UInt8) (hne : b ≠ []) (g o cp : Nat) (w : World) (he : Env w) (hc : At w g o b) (hcp : b.length ≤ cp) (hlim : b.length ≤ 1000000) :
    Calls Tryz.prog 53 #[.slice (some ⟨g, o, none⟩) b.length cp] w fun e w' => RmOut b w.heap.size e w' ∧ Below w.heap.size w w' := by
  obtain ⟨i0, hi, hz0, hz1, hz2⟩ := info_parts info50
  have hpos : 1 ≤ b.length := List.length_pos_iff.2 hne
  have hg : g < w.heap.size := hc.lt (by omega)
  have HTT := Lib.hid (And.intro HT he)
  have HNE := Lib.hid hne
  have hn0 : ((b.length : Nat) : Int) ≠ 0 := by omega
  have q0 : ((b.length : Int) == 0) = false := by simpa using hn0
  have HC := Lib.hid hc
  have HLIM := Lib.hid hlim
  clear hne HT he hc
  go_enter Tryz.func53, Tryz.ntmps53
  go_wp2
  go_loopw [0, 5, 6, 7] (fun v0 v5 v6 v7 wr => ∃ (done : List (Int × List UInt8)) (todo : List UInt8) (o' cp' : Nat) (xs : List Value), v0 = .slice (some ⟨g, o', none⟩) todo.length cp' ∧ v6 = .int .i64 (allBytes done).length ∧ v7 = .bool (sawB done) ∧ Hid (RdSt b done todo) ∧
      Hid (At wr g o' todo) ∧ todo.length ≤ cp' ∧ wr.ownsRow w.heap.size 50 3 v5 done.length xs ∧ Hid (XsOf wr done done.length xs) ∧ Below w.heap.size w wr) (fun v0 _ _ _ _ => match v0 with | .slice _ n _ => n | _ => 0)
  case atStart => exact ⟨[], b, o, cp, [], rfl, rfl, rfl, Lib.hid (RdSt.start b), Lib.hid HC.out, hcp, World.ownsRow_nil _ _ _ _, Lib.hid (fun j h => by simp at h), Below.refl _ _⟩
  case round =>
    obtain ⟨done, todo, o', cp', xs, rfl, rfl, rfl, hst, hat, hcp2, hown, hxs, hbl⟩ := hrel
    cases todo with
    | nil =>
      have HD := Lib.hid (hst.out.done HNE.out)
      have hbd : b = allBytes done := HD.out.1
      have HB := Lib.hid hbd
      have hdl : 0 < done.length := List.length_pos_iff.2 HD.out.2.1
      have HO := Lib.hid hown
      rcases hown.2 with ⟨_, h⟩ | ⟨bb, cap, cur, hv, hbase, hheap, hle, hmax, hcur, htake⟩
      · omega
      subst hv
      have HA : Hid (MAt wr bb 0 done) := Lib.hid fun j hj => by
        obtain ⟨q, x1, x2, x3, x4⟩ := hxs.out j hj hj
        exact ⟨q, by rw [Nat.zero_add, HO.out.cellAt _ (by omega)]; exact x1, by rw [Nat.zero_add, HO.out.cellAt _ (by omega)]; exact x2, by rw [Nat.zero_add, HO.out.cellAt _ (by omega)]; exact x3, x4⟩
      have hbl' := (hown.lt bb rfl).2
      clear hown hheap htake hcur q0 hn0 hbd
      go_wp2
      go_ret3
      exact ⟨Or.inl ⟨done, bb, cap, HD.out, by rw [HB.out]; rfl, hbase, hbl', hle, HA.out⟩, hbl⟩
    | cons t0 tr =>
      obtain ⟨todo, htodo⟩ : ∃ todo, todo = t0 :: tr := ⟨_, rfl⟩
      rw [← htodo] at hst hat hcp2 ⊢
      have htn : todo ≠ [] := by rw [htodo]; simp
      have hN1 : 1 ≤ todo.length := List.length_pos_iff.2 htn
      clear htodo
      have hl1 : (allBytes done).length + todo.length = b.length := by rw [hst.out.1, List.length_append]
      have hdl : done.length ≤ 1000000 := by have := allBytes_len done; omega
      have H55 := Lib.hid (rc_all HTT.out.1 todo g o' cp' wr (HTT.out.2.up hbl) hat.out hcp2 (by omega))
      have hgr : g < wr.heap.size := Nat.lt_of_lt_of_le hg hbl.size
      cases hr : readC todo with
      | none =>
        have HNO := Lib.hid (hst.out.none hr htn)
        rw [hr] at H55
        have e2 : decide (0 < (todo.length : Int)) = true := by simp; omega
        clear hr htn hst hat hown hxs q0 hn0
        go_wp2_with (go_at_call 55; (with_reducible refine H55.out.mono ?_); rintro e w1 ⟨⟨t, p, rfl⟩, hb1⟩)
        go_ret3
        exact ⟨Or.inr ⟨HNO.out, 0, t, p, rfl⟩, hbl.trans (hb1.mono hbl.size)⟩
      | some x =>
        obtain ⟨c, l⟩ := x
        rw [hr] at H55
        obtain ⟨hok, rest, hrest⟩ := readC_some hr
        have hl2 : todo.length = (compBytes c l).length + rest.length := by rw [hrest, List.length_append]
        have HPA : Hid (sawB done = true → ¬ ∃ cs, RdOk b cs) := Lib.hid fun hs => hst.out.path hs htn
        have HST : Hid (sawB done = false → RdSt b (done ++ [(c, l)]) rest) := Lib.hid fun hs => by
          have h := hst.out
          rw [hrest] at h
          exact h.step hok hs
        have HD := Lib.hid (show At wr g (o' + (compBytes c l).length) rest by have h := hat.out; rw [hrest] at h; exact h.drop)
        have hcp1 := compBytes_pos c l
        have HL3 : Hid ((allBytes (done ++ [(c, l)])).length = (allBytes done).length + (compBytes c l).length) := Lib.hid (by rw [allBytes_append, List.length_append, allBytes, allBytes, List.append_nil])
        obtain ⟨N, hN⟩ : ∃ N, N = todo.length := ⟨_, rfl⟩
        obtain ⟨M, hM⟩ : ∃ M, M = rest.length := ⟨_, rfl⟩
        obtain ⟨K, hK⟩ : ∃ K, K = (compBytes c l).length := ⟨_, rfl⟩
        obtain ⟨J, hJ⟩ : ∃ J, J = (allBytes done).length := ⟨_, rfl⟩
        have H55' : Hid (Calls Tryz.prog 55 #[.slice (some ⟨g, o', none⟩) N cp'] wr fun e w' => ∃ q, e = .returned (.tuple #[.int .i64 K, .pointer (some ⟨q, 0, none⟩), .nilIface]) ∧ CompK wr.heap.size w' q c l ∧ Below wr.heap.size wr w') := Lib.hid (by
          have h := H55.out
          rw [hN, hK]
          refine h.mono ?_
          rintro e w' ⟨⟨q, h1, h2⟩, h3⟩
          exact ⟨q, h1, h2, h3⟩)
        have HNS := Lib.hid (And.intro hN (And.intro hM (And.intro hK hJ)))
        rw [← hN] at hcp2 hl1 hl2 hN1 ⊢
        rw [← hK] at hl2 HD hcp1
        rw [← hJ] at hl1 ⊢
        rw [← hM] at hl2
        have q1 : (0 : Int) ≤ (K : Int) := by omega
        have q2 : (K : Int) ≤ (N : Int) := by omega
        have q3 : IntKind.i64.wrap ((J : Int) + (K : Int)) = ((J + K : Nat) : Int) := by rw [IntWalk.i64_in _ (by omega)]; simp
        have e2 : decide (0 < (N : Int)) = true := by simp; omega
        have HLL := Lib.hid (And.intro hl1 (And.intro hl2 hlim))
        clear hl1 hl2 hN hM hK hJ q0 hn0 H55 hr hrest hat hst htn hok hpos hlim
        cases hsaw : sawB done with
        | true =>
          have HNO := Lib.hid (HPA.out hsaw)
          rcases Decidable.em (K = cp') with rfl | hcc
          all_goals
            clear hsaw
            go_wp2_with (first
              | (go_at_call 55; (with_reducible refine H55'.out.mono ?_); rintro e w1 ⟨q, rfl, ⟨hq1, hq2, pp, a0, a1, a2, hp⟩, hb1⟩)
              | (go_at_call 52; (with_reducible refine (errorsNew _ _).mono ?_); rintro e w5 ⟨t, p, rfl, hb5⟩))
            go_ret3
            have hbl1 : Below w.heap.size w w1 := hbl.trans (hb1.mono hbl.size)
            exact ⟨Or.inr ⟨HNO.out, _, t, p, rfl⟩, hbl1.trans (hb5.mono hbl1.size)⟩
        | false =>
          have HST2 := Lib.hid (HST.out hsaw)
          have hpth : sawB (done ++ [(c, l)]) = ppath c := sawB_snoc done (c, l)
          have HPT := Lib.hid hpth
          clear hsaw HST HPA hpth
          go_wp2_with (go_at_call 55; (with_reducible refine H55'.out.mono ?_); rintro e w1 ⟨q, rfl, ⟨hq1, hq2, pp, a0, a1, a2, hp⟩, hb1⟩; refine Hid.out ?_)
          refine Lib.hid ?_
          have HP1 := Lib.hid hp
          obtain ⟨hpp1, hpp2, vc, -, -, -, -, -, p4, -⟩ := hp
          have hown1 : w1.ownsRow w.heap.size 50 3 u5 done.length xs := hown.kept (row := none) ⟨hb1.os, hb1.tape, hb1.output, hb1.size, fun k hk _ => hb1.block k hk⟩ (by cases hh : Value.ownBlock _ <;> simp)
          have hbl1 : Below w.heap.size w w1 := hbl.trans (hb1.mono hbl.size)
          have HD1 := Lib.hid (HD.out.below hb1 hgr)
          have HX1 := Lib.hid (hxs.out.below hb1 (Nat.le_refl _))
          have HLT := Lib.hid (fun b (h : Value.ownBlock u5 = some b) => (hown.lt b h).2)
          have hz1' := hbl1.size
          have HBL1 := Lib.hid hbl1
          have HVC : Hid (∀ g' l' cp'', w1.cell? ⟨pp, 2, none⟩ = some (.slice (some ⟨g', 0, none⟩) l' cp'') → wr.heap.size ≤ g') := Lib.hid fun g' l' cp'' h => by
            obtain ⟨_, _, vc2, ⟨g2, hg2, _, rfl, _⟩, _, _, p2, _⟩ := HP1.out
            rw [p2] at h
            injection h with h; injection h with h; injection h with h; injection h with h
            omega
          clear hown hb1 HD hq1 hbl hbl1 hxs
          rcases Decidable.em (K = cp') with rfl | hcc
          all_goals
            go_wp2_with (at_builtin; refine wpList_append_own _ rfl (.tmp 43) (.tmp 47) 56 rfl w.heap.size 50 i0 (.agg #[.string ⟨#[]⟩, .pointer none, .int .i64 0]) 3 32 Tryz.underlying56 hi hz0 hz1 hz2 rfl (by decide) _ _ _ rfl (hown1.alloc _) ⟨w1.heap.size, 0, none⟩ 1 1 [.string ⟨(compBytes c l).toArray⟩, .pointer (some ⟨pp, 0, none⟩), .int .i64 (kst c l)] rfl rfl (cell_three_new _ _ _ _ _) ?c2 ?c3 ?c4 ?c5 ?_)
            case c2 =>
              intro u hu
              simp only [List.mem_cons, List.not_mem_nil, or_false] at hu
              rcases hu with rfl | rfl | rfl <;> rfl
            case c3 => unfold maxLen; omega
            case c4 => omega
            case c5 => simp; omega
            intro v' w2 hown2 hgrow _
            have hb2 : Below w.heap.size w w2 := (HBL1.out.alloc hz1' _).grown hgrow (by simp; omega) (fun k hk => (hown1.lt k hk).1)
            have hAt2 : At w2 g (o' + K) rest := HD1.out.below (((Below.refl w.heap.size w1).alloc hz1' _).grown hgrow (by simp; omega) (fun k hk => (hown1.lt k hk).1)) hg
            have hP2 : ProtoAt 0 w2 pp c := by
              refine (ProtoAt.keep (HP1.out.below ((Below.refl _ _).alloc (Nat.le_refl _) _) (Nat.le_refl _)) hgrow (fun e => ?_) (fun g' l' cp'' hc _ e => ?_)).mono (Nat.zero_le _)
              · have := HLT.out pp e; omega
              · have h1 := HLT.out g' e
                rw [World.cell?_alloc_past _ _ _ hpp2] at hc
                have := HVC.out g' l' cp'' hc
                omega
            have hX2 : XsOf w2 (done ++ [(c, l)]) (done.length + 1) (xs ++ [.string ⟨(compBytes c l).toArray⟩, .pointer (some ⟨pp, 0, none⟩), .int .i64 (kst c l)]) := by
              have hX : XsOf w2 (done ++ [(c, l)]) done.length xs := by
                refine XsOf.ext ?_ (Nat.le_refl _) _
                intro j hj hc
                obtain ⟨q', x1, x2, x3, x4⟩ := HX1.out j hj hc
                refine ⟨q', x1, x2, x3, ?_⟩
                have h4 : ProtoAt 0 (w1.alloc (.cells #[.string ⟨(compBytes c l).toArray⟩, .pointer (some ⟨pp, 0, none⟩), .int .i64 (kst c l)] 50)) q' done[j].1 := x4.below ((Below.refl _ _).alloc (Nat.le_refl _) _) (Nat.le_refl _)
                cases hrow : Value.ownBlock u5 with
                | none => rw [hrow] at hgrow; exact h4.keep hgrow (by simp) (by simp)
                | some b =>
                  rw [hrow] at hgrow
                  obtain ⟨q0, y1, y2, _, _⟩ := HX1.out 0 (by omega) (by omega)
                  have hcells := (hown1.alloc (.cells #[.string ⟨(compBytes c l).toArray⟩, .pointer (some ⟨pp, 0, none⟩), .int .i64 (kst c l)] 50)).cells hrow
                  have z0 := hcells 0 _ y1
                  have z1 := hcells 1 _ y2
                  rw [Addr.add_lit] at z0 z1
                  exact h4.keepRow hgrow z0 z1
              have hlast : (done ++ [(c, l)])[done.length]'(by simp) = (c, l) := by simp
              have := hX.snoc (q := pp) hown1.1 (by simp) (by rw [hlast]; exact hP2)
              rw [hlast] at this
              rw [kst_head]
              exact this
            have HO2 := Lib.hid (And.intro hown2 (And.intro hX2 (And.intro hb2 hAt2)))
            clear hown2 hX2 hb2 hAt2 hP2 hgrow hown1
            go_wp2
            obtain ⟨hown2, hX2, hb2, hAt2⟩ := HO2.out
            obtain ⟨hNN, hMM, hKK, hJJ⟩ := HNS.out
            obtain ⟨hl1, hl2, -⟩ := HLL.out
            have hNK : N - K = rest.length := by omega
            have hJK : (J : Int) + (K : Int) = ((allBytes (done ++ [(c, l)])).length : Nat) := by rw [HL3.out, ← hJJ, ← hKK]; simp
            have hlen2 : (done ++ [(c, l)]).length = done.length + 1 := by simp
            first
              | refine ⟨⟨done ++ [(c, l)], rest, o' + K, cp' - K, _, by rw [hNK], by rw [hJK], by rw [HPT.out], HST2, Lib.hid hAt2, by omega, by rw [hlen2]; exact hown2, Lib.hid (by rw [hlen2]; exact hX2), hb2⟩, ?_⟩
              | refine ⟨⟨done ++ [(c, l)], rest, o', 0, _, by rw [show rest.length = 0 by omega], by rw [hJK], by rw [HPT.out], HST2, Lib.hid (by intro j hj; omega), by omega, by rw [hlen2]; exact hown2, Lib.hid (by rw [hlen2]; exact hX2), hb2⟩, ?_⟩
            first
              | (show N - K < N; omega)
              | (show 0 < N; omega)
end Go.Proofs.YtnpcmmjdojdmnaaGreatDoor
