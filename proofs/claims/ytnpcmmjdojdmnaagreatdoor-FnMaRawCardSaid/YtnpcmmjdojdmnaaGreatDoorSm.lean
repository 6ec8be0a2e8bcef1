/- FormatUint with the length of its text; encoders of base 32 (252, 260); zzTrimRight (103); onion (215), onion3 (218), garlic32 (224): BytesToString. -/
import Derived.Test.YtnpcmmjdojdmnaaGreatDoorSi
import Derived.Test.YtnpcmmjdojdmnaaGreatDoorSk
namespace Go.Proofs.YtnpcmmjdojdmnaaGreatDoor
open Go Go.RowKit Go.Sort

theorem nd_small (n : Nat) (hn : n < 100) : (Lib.decDigits n).length ≤ 100 := by
  by_cases h : 1 ≤ n
  · have := Lib.numDigits_eq n h (by omega)
    rw [Lib.decDigits_length]
    split at this <;> omega
  · have : n = 0 := by omega
    subst this
    decide +kernel

set_option maxRecDepth 100000 in
set_option maxHeartbeats 4000000 in
theorem fmtUintSmall (n : Nat) (hn : n < 100) (w : World) : Calls Tryz.prog 249 #[.int .u64 n, .int .i64 10] w fun e w' => ∃ s, e = .returned (.string s) ∧ s.size ≤ 100 ∧ w' = w := by
  have q0 : decide ((n : Int) < 100) = true := by simp; omega
  have q1 : IntKind.i64.wrap (n : Int) = n := IntWalk.i64_in _ (by omega)
  have HI : Hid (Calls Tryz.prog 282 #[.int .u64 n, .int .i64 10] w fun e w' => ∃ s, e = .returned (.string s) ∧ s.size ≤ 100 ∧ w' = w) := Lib.hid (by
    have HS := Lib.hid (Tryz.internal_strconv_small n hn w)
    have hl := Lib.hid (nd_small n hn)
    clear hn
    go_enter Tryz.func282, Tryz.ntmps282
    go_wp2_with (go_at_call 275; (with_reducible refine HS.out.mono ?_); rintro e w2 ⟨rfl, rfl⟩)
    go_ret
    exact ⟨_, rfl, by show (Lib.decDigits n).toArray.size ≤ 100; rw [List.size_toArray]; exact hl.out, rfl⟩)
  clear hn q0 q1
  go_enter Tryz.func249, Tryz.ntmps249
  go_wp2_with (go_at_call 282; (with_reducible refine HI.out.mono ?_); rintro e w2 ⟨s, rfl, hs, rfl⟩)
  go_ret
  exact ⟨s, rfl, hs, rfl⟩

set_option maxRecDepth 100000 in
set_option maxHeartbeats 8000000 in
theorem fmtUint_bigS (u : Nat) (h100 : 100 ≤ u) (hu64 : u < 18446744073709551616) (w : World) (ht : Tab w) : Calls Tryz.prog 282 #[.int .u64 u, .int .i64 10] w fun e w' => ∃ s, e = .returned (.string s) ∧ s.size ≤ 100 ∧ Below w.heap.size w w' := by
  have htab : Lib.TabIs Tryz.prog w "internal/strconv.uint64pow10" .u64 Lib.pow10Tab := ht
  have hu1 : 1 ≤ u := by omega
  have hnd20 : Lib.nDigits u ≤ 20 := by have := Lib.numDigits_eq u hu1 hu64; split at this <;> omega
  have hb3 : Lib.nDigits u ≤ 24 := by omega
  have hal : Tryz.prog.arrayLen 216 = 24 := by simp [Program.arrayLen, Tryz.underlying216]
  have hsl1 : ∀ W, (Instr.sliceAt 216 (.pointer (some ⟨w.heap.size, 0, none⟩)) none (some (.int .i64 (Lib.nDigits u : Int))) none).run Tryz.prog W = .ok (.slice (some ⟨w.heap.size, 0, none⟩) (Lib.nDigits u) 24) W := fun W => by
    rw [run_sliceAt_array_h W 216 ⟨w.heap.size, 0, none⟩ (by simp [Program.arrayLen, Program.elem, Tryz.underlying216]) .i64 (Lib.nDigits u : Int) (by omega) (by rw [hal]; omega)]
    go_simp
  have hH0 := holds_zero0 w 216 (Lib.nDigits u) (by omega)
  have hfmt := Tryz.internal_strconv_formatBase10 w.heap.size 0 24 u (Array.replicate (Lib.nDigits u) 0) (w.alloc (.cells Lib.zeros24 216)) hH0 (by rw [Array.size_replicate]; exact Lib.lt_pow_nDigits u) hu64 (by rw [Array.size_replicate]; omega)
  rw [Array.size_replicate] at hfmt
  have HH0 := Lib.hid hH0
  have HF := Lib.hid hfmt
  have e1 : decide ((u : Int) < 100) = false := by simp; omega
  clear hH0 hal hfmt ht
  go_enter Tryz.func282, Tryz.ntmps282
  go_wp2_with (first
    | (go_at_call 276; refine (Tryz.internal_strconv_numDigits u hu1 hu64 _ (Lib.tabIs_alloc htab _)).mono ?_; rintro e w' ⟨rfl, rfl⟩)
    | (go_at_call 277; refine HF.out.mono ?_; rintro e w' ⟨rfl, k, v', dk, rfl, hF⟩; refine Hid.out ?_))
  refine Lib.hid ?_
  have hcv : (convert 22 9 (.slice (some ⟨w.heap.size, 0, none⟩) (Lib.nDigits u) 24)).run Tryz.prog ((putRow (fun (b : UInt8) => Value.int .u8 (b.toNat : Int)) (w.alloc (.cells Lib.zeros24 216)) w.heap.size 0 dk).drewN k) = .ok (.string ⟨(Lib.decDigits u).toArray⟩) ((putRow (fun (b : UInt8) => Value.int .u8 (b.toNat : Int)) (w.alloc (.cells Lib.zeros24 216)) w.heap.size 0 dk).drewN k) := by
    have h := run_convert_bytes_back (P := Tryz.prog) ((putRow (fun (b : UInt8) => Value.int .u8 (b.toNat : Int)) (w.alloc (.cells Lib.zeros24 216)) w.heap.size 0 dk).drewN k) 22 9 5 ⟨w.heap.size, 0, none⟩ 24 (Lib.decDigits u) Tryz.underlying22 Tryz.underlying5 Tryz.underlying9 (fun j hj => by
      rw [Lib.row_is_numeral hF j hj, Lib.add_plain, World.cell?_drewN]
      exact cell?_putRow (fun (b : UInt8) => Value.int .u8 (b.toNat : Int)) _ w.heap.size 0 _ dk HH0.out (by rw [hF.size, Array.size_replicate]) j (by rw [hF.size]; rw [Lib.decDigits_length] at hj; exact hj))
    rw [Lib.decDigits_length] at h
    exact h
  go_wp2
  go_ret
  obtain ⟨os, eo⟩ := fin_pos0 w (.cells Lib.zeros24 216) dk k
  exact ⟨_, rfl, by show (Lib.decDigits u).toArray.size ≤ 100; rw [List.size_toArray, Lib.decDigits_length]; omega, by rw [eo]; exact below_grow (below_drewN (Below.refl _ _) _) (Nat.le_refl _) os⟩

set_option maxRecDepth 100000 in
set_option maxHeartbeats 4000000 in
theorem fmtUintS (u : Nat) (hu64 : u < 18446744073709551616) (w : World) (ht : Tab w) : Calls Tryz.prog 249 #[.int .u64 u, .int .i64 10] w fun e w' => ∃ s, e = .returned (.string s) ∧ s.size ≤ 100 ∧ Below w.heap.size w w' := by
  by_cases h100 : u < 100
  · refine (fmtUintSmall u h100 w).mono ?_
    rintro e w' ⟨s, rfl, hs, rfl⟩
    exact ⟨s, rfl, hs, Below.refl _ _⟩
  · have HI := Lib.hid (fmtUint_bigS u (by omega) hu64 w ht)
    clear ht h100
    go_enter Tryz.func249, Tryz.ntmps249
    go_wp2_with (go_at_call 282; (with_reducible refine HI.out.mono ?_); rintro e w2 ⟨s, rfl, hs, hb⟩)
    go_ret
    exact ⟨s, rfl, hs, hb⟩

set_option maxRecDepth 1000000 in
theorem zz32_ch : ∀ i (h : i < (⟨#[65, 66, 67, 68, 69, 70, 71, 72, 73, 74, 75, 76, 77, 78, 79, 80, 81, 82, 83, 84, 85, 86, 87, 88, 89, 90, 50, 51, 52, 53, 54, 55]⟩ : ByteArray).size), (⟨#[65, 66, 67, 68, 69, 70, 71, 72, 73, 74, 75, 76, 77, 78, 79, 80, 81, 82, 83, 84, 85, 86, 87, 88, 89, 90, 50, 51, 52, 53, 54, 55]⟩ : ByteArray)[i] ≠ 10 ∧ (⟨#[65, 66, 67, 68, 69, 70, 71, 72, 73, 74, 75, 76, 77, 78, 79, 80, 81, 82, 83, 84, 85, 86, 87, 88, 89, 90, 50, 51, 52, 53, 54, 55]⟩ : ByteArray)[i] ≠ 13 := by decide +kernel
set_option maxRecDepth 1000000 in
theorem zz32_nd : ∀ i j (hi : i < (⟨#[65, 66, 67, 68, 69, 70, 71, 72, 73, 74, 75, 76, 77, 78, 79, 80, 81, 82, 83, 84, 85, 86, 87, 88, 89, 90, 50, 51, 52, 53, 54, 55]⟩ : ByteArray).size) (hj : j < (⟨#[65, 66, 67, 68, 69, 70, 71, 72, 73, 74, 75, 76, 77, 78, 79, 80, 81, 82, 83, 84, 85, 86, 87, 88, 89, 90, 50, 51, 52, 53, 54, 55]⟩ : ByteArray).size), i < j → (⟨#[65, 66, 67, 68, 69, 70, 71, 72, 73, 74, 75, 76, 77, 78, 79, 80, 81, 82, 83, 84, 85, 86, 87, 88, 89, 90, 50, 51, 52, 53, 54, 55]⟩ : ByteArray)[i] ≠ (⟨#[65, 66, 67, 68, 69, 70, 71, 72, 73, 74, 75, 76, 77, 78, 79, 80, 81, 82, 83, 84, 85, 86, 87, 88, 89, 90, 50, 51, 52, 53, 54, 55]⟩ : ByteArray)[j] := by
  have h : ∀ i (hi : i < (⟨#[65, 66, 67, 68, 69, 70, 71, 72, 73, 74, 75, 76, 77, 78, 79, 80, 81, 82, 83, 84, 85, 86, 87, 88, 89, 90, 50, 51, 52, 53, 54, 55]⟩ : ByteArray).size), ∀ j (hj : j < (⟨#[65, 66, 67, 68, 69, 70, 71, 72, 73, 74, 75, 76, 77, 78, 79, 80, 81, 82, 83, 84, 85, 86, 87, 88, 89, 90, 50, 51, 52, 53, 54, 55]⟩ : ByteArray).size), i < j → (⟨#[65, 66, 67, 68, 69, 70, 71, 72, 73, 74, 75, 76, 77, 78, 79, 80, 81, 82, 83, 84, 85, 86, 87, 88, 89, 90, 50, 51, 52, 53, 54, 55]⟩ : ByteArray)[i] ≠ (⟨#[65, 66, 67, 68, 69, 70, 71, 72, 73, 74, 75, 76, 77, 78, 79, 80, 81, 82, 83, 84, 85, 86, 87, 88, 89, 90, 50, 51, 52, 53, 54, 55]⟩ : ByteArray)[j] := by decide +kernel
  exact fun i j hi hj => h i hi j hj

set_option maxRecDepth 1000000 in
set_option maxHeartbeats 4000000 in
theorem zz32 (w : World) : Calls Tryz.prog 252 #[] w fun e w' => ∃ q, e = .returned (.pointer (some ⟨q, 0, none⟩)) ∧ w.heap.size ≤ q ∧ Enc32 w' q ∧ Below w.heap.size w w' := by
  have H := Lib.hid (new32 ⟨#[65, 66, 67, 68, 69, 70, 71, 72, 73, 74, 75, 76, 77, 78, 79, 80, 81, 82, 83, 84, 85, 86, 87, 88, 89, 90, 50, 51, 52, 53, 54, 55]⟩ rfl zz32_ch zz32_nd w)
  go_enter Tryz.func252, Tryz.ntmps252
  go_wp2_with (go_at_call 284; (with_reducible refine H.out.mono ?_); rintro e w2 ⟨q, rfl, h1, h2, h3⟩)
  go_ret
  exact ⟨q, rfl, h1, h2, h3⟩

set_option maxRecDepth 1000000 in
theorem gar32_ch : ∀ i (h : i < (⟨#[97, 98, 99, 100, 101, 102, 103, 104, 105, 106, 107, 108, 109, 110, 111, 112, 113, 114, 115, 116, 117, 118, 119, 120, 121, 122, 50, 51, 52, 53, 54, 55]⟩ : ByteArray).size), (⟨#[97, 98, 99, 100, 101, 102, 103, 104, 105, 106, 107, 108, 109, 110, 111, 112, 113, 114, 115, 116, 117, 118, 119, 120, 121, 122, 50, 51, 52, 53, 54, 55]⟩ : ByteArray)[i] ≠ 10 ∧ (⟨#[97, 98, 99, 100, 101, 102, 103, 104, 105, 106, 107, 108, 109, 110, 111, 112, 113, 114, 115, 116, 117, 118, 119, 120, 121, 122, 50, 51, 52, 53, 54, 55]⟩ : ByteArray)[i] ≠ 13 := by decide +kernel
set_option maxRecDepth 1000000 in
theorem gar32_nd : ∀ i j (hi : i < (⟨#[97, 98, 99, 100, 101, 102, 103, 104, 105, 106, 107, 108, 109, 110, 111, 112, 113, 114, 115, 116, 117, 118, 119, 120, 121, 122, 50, 51, 52, 53, 54, 55]⟩ : ByteArray).size) (hj : j < (⟨#[97, 98, 99, 100, 101, 102, 103, 104, 105, 106, 107, 108, 109, 110, 111, 112, 113, 114, 115, 116, 117, 118, 119, 120, 121, 122, 50, 51, 52, 53, 54, 55]⟩ : ByteArray).size), i < j → (⟨#[97, 98, 99, 100, 101, 102, 103, 104, 105, 106, 107, 108, 109, 110, 111, 112, 113, 114, 115, 116, 117, 118, 119, 120, 121, 122, 50, 51, 52, 53, 54, 55]⟩ : ByteArray)[i] ≠ (⟨#[97, 98, 99, 100, 101, 102, 103, 104, 105, 106, 107, 108, 109, 110, 111, 112, 113, 114, 115, 116, 117, 118, 119, 120, 121, 122, 50, 51, 52, 53, 54, 55]⟩ : ByteArray)[j] := by
  have h : ∀ i (hi : i < (⟨#[97, 98, 99, 100, 101, 102, 103, 104, 105, 106, 107, 108, 109, 110, 111, 112, 113, 114, 115, 116, 117, 118, 119, 120, 121, 122, 50, 51, 52, 53, 54, 55]⟩ : ByteArray).size), ∀ j (hj : j < (⟨#[97, 98, 99, 100, 101, 102, 103, 104, 105, 106, 107, 108, 109, 110, 111, 112, 113, 114, 115, 116, 117, 118, 119, 120, 121, 122, 50, 51, 52, 53, 54, 55]⟩ : ByteArray).size), i < j → (⟨#[97, 98, 99, 100, 101, 102, 103, 104, 105, 106, 107, 108, 109, 110, 111, 112, 113, 114, 115, 116, 117, 118, 119, 120, 121, 122, 50, 51, 52, 53, 54, 55]⟩ : ByteArray)[i] ≠ (⟨#[97, 98, 99, 100, 101, 102, 103, 104, 105, 106, 107, 108, 109, 110, 111, 112, 113, 114, 115, 116, 117, 118, 119, 120, 121, 122, 50, 51, 52, 53, 54, 55]⟩ : ByteArray)[j] := by decide +kernel
  exact fun i j hi hj => h i hi j hj

set_option maxRecDepth 1000000 in
set_option maxHeartbeats 4000000 in
theorem gar32 (w : World) : Calls Tryz.prog 260 #[] w fun e w' => ∃ q, e = .returned (.pointer (some ⟨q, 0, none⟩)) ∧ w.heap.size ≤ q ∧ Enc32 w' q ∧ Below w.heap.size w w' := by
  have H := Lib.hid (new32 ⟨#[97, 98, 99, 100, 101, 102, 103, 104, 105, 106, 107, 108, 109, 110, 111, 112, 113, 114, 115, 116, 117, 118, 119, 120, 121, 122, 50, 51, 52, 53, 54, 55]⟩ rfl gar32_ch gar32_nd w)
  go_enter Tryz.func260, Tryz.ntmps260
  go_wp2_with (go_at_call 284; (with_reducible refine H.out.mono ?_); rintro e w2 ⟨q, rfl, h1, h2, h3⟩)
  go_ret
  exact ⟨q, rfl, h1, h2, h3⟩

set_option maxRecDepth 100000 in
set_option maxHeartbeats 4000000 in
/-- zzTrimRight with a set of one byte. -/
theorem trim1 (s : ByteArray) (c : UInt8) (w : World) (hs : s.size ≤ 4611686018427387904) :
    Calls Tryz.prog 103 #[.string s, .string ⟨#[c]⟩] w fun e w' => ∃ t, e = .returned (.string t) ∧ t.size ≤ s.size ∧ Below w.heap.size w w' := by
  have e00 : ((⟨#[c]⟩ : ByteArray).size : Int) = 1 := rfl
  have e0 : (((⟨#[c]⟩ : ByteArray)[0]'(Nat.zero_lt_one)).toNat) = c.toNat := rfl
  go_enter Tryz.func103, Tryz.ntmps103
  go_wp2
  go_loopw [5] (fun v5 wr => ∃ k : Nat, v5 = .int .i64 k ∧ k ≤ s.size ∧ Below w.heap.size w wr) (fun v5 _ => (intOf v5).toNat)
  case atStart => exact ⟨s.size, rfl, Nat.le_refl _, Below.refl _ _⟩
  case round =>
    obtain ⟨k, rfl, hk, hbl⟩ := hrel
    by_cases h0 : 0 < k
    · have e1 : IntKind.i64.wrap ((k : Int) - 1) = (k : Int) - 1 := IntWalk.i64_in _ (by omega)
      have e2 : 0 ≤ (k : Int) - 1 := by omega
      have e5 : 1 ≤ (k : Int) := by omega
      have e3 : (k : Int) - 1 < (s.size : Int) := by omega
      have e4 : ((k : Int) - 1).toNat = k - 1 := by omega
      cases hc : ((c.toNat : Int) == (s[k - 1].toNat : Int))
      · go_wp2
        refine wp_loop_rounds 2 ?_; rw [rounds_succ]
        go_wp2
        go_region
        go_wp2
        rw [rounds_succ]
        go_wp2
        go_ret
        exact ⟨_, rfl, by rw [ByteArray.size_extract]; omega, hbl.drew⟩
      · go_wp2
        refine wp_loop_rounds 2 ?_; rw [rounds_succ]
        go_wp2
        go_region
        go_wp2
        rw [rounds_succ]
        go_wp2
        exact ⟨⟨k - 1, by rw [show (((k - 1 : Nat) : Int)) = (k : Int) - 1 by omega], by omega, hbl.drew⟩, by simp [intOf]; omega⟩
    · go_wp2
      go_ret
      exact ⟨_, rfl, by rw [ByteArray.size_extract]; omega, hbl⟩
set_option maxRecDepth 100000 in
set_option maxHeartbeats 8000000 in
theorem bts215Y (l : List UInt8) (hl : l.length = 12) (h : (l.getD 10 0 == 0 && l.getD 11 0 == 0) = false) : BtsY 215 l := by
  intro w g o cp hcp he hc
  obtain ⟨x, hx⟩ : ∃ x, x = l[10] := ⟨_, rfl⟩
  obtain ⟨y, hy⟩ : ∃ y, y = l[11] := ⟨_, rfl⟩
  have c0 : w.cell? ⟨g, o + 10, none⟩ = some (.int .u8 x.toNat) := by rw [hx]; exact hc 10 (by omega)
  have c1 : w.cell? ⟨g, o + 10 + 1, none⟩ = some (.int .u8 y.toNat) := by rw [hy]; exact hc 11 (by omega)
  have hgl := World.block_lt_of_cell? w _ c0
  have HU : Hid (∀ w2, Below w.heap.size w w2 → Calls Tryz.prog 248 #[.agg #[], .slice (some ⟨g, o + 10, none⟩) 2 (cp - 10)] w2 fun e w' => e = .returned (.int .u16 (Lib.beNat [x, y])) ∧ Below w.heap.size w w') := Lib.hid fun w2 hb => by
    refine (Tryz.binary_BE_Uint16 g (o + 10) 2 (cp - 10) x y w2 (by decide) ((hb.cell (p := ⟨g, o + 10, none⟩) hgl).trans c0) ((hb.cell (p := ⟨g, o + 10 + 1, none⟩) hgl).trans c1)).mono ?_
    rintro e w' ⟨rfl, hb2⟩
    exact ⟨rfl, hb.trans (hb2.mono hb.size)⟩
  have hz : (((Lib.beNat [x, y] : Nat) : Int) == 0) = false := by
    have hxx : l.getD 10 0 = x := by rw [hx]; simp [List.getD, hl]
    have hyy : l.getD 11 0 = y := by rw [hy]; simp [List.getD, hl]
    rw [hxx, hyy] at h
    rw [be2]
    have h : ¬ (x = 0 ∧ y = 0) := by simpa using h
    have hx0 : x.toNat = 0 → x = 0 := fun e => UInt8.toNat_inj.1 (by simpa using e)
    have hy0 : y.toNat = 0 → y = 0 := fun e => UInt8.toNat_inj.1 (by simpa using e)
    have : ((x.toNat * 256 + y.toNat : Nat) : Int) ≠ 0 := fun e => h ⟨hx0 (by omega), hy0 (by omega)⟩
    simpa using this
  have hlt := be2_lt x y
  have h10 : (l.take 10).length = 10 := by rw [List.length_take]; omega
  have HE : Hid (∀ w2 q, Below w.heap.size w w2 → Enc32 w2 q → Calls Tryz.prog 256 #[.pointer (some ⟨q, 0, none⟩), .slice (some ⟨g, o, none⟩) 10 cp] w2 fun e w' => ∃ s, e = .returned (.string s) ∧ s.size ≤ 2000000 ∧ Below w.heap.size w w') := Lib.hid fun w2 q hb hq => by
    have hat : At w2 g o (l.take 10) := At.below (l := l.take 10) (fun j hj => by rw [hc j (by rw [List.length_take] at hj; omega), List.getElem_take]) hb hgl
    have := encStr32 (l.take 10) (by omega) (by omega) q g o cp w2 hq hat (by omega)
    rw [h10] at this
    refine this.mono ?_
    rintro e w' ⟨s, rfl, hs, hb2⟩
    exact ⟨s, rfl, hs, hb.trans (hb2.mono hb.size)⟩
  have HL : Hid (∀ w2 s, Below w.heap.size w w2 → s.size ≤ 2000000 → Calls Tryz.prog 255 #[.string s] w2 fun e w' => ∃ t, e = .returned (.string t) ∧ t.size ≤ 2000000 ∧ Below w.heap.size w w') := Lib.hid fun w2 s hb hs => by
    refine (lower32 s hs w2).mono ?_
    rintro e w' ⟨t, rfl, ht, hb2⟩
    exact ⟨t, rfl, ht, hb.trans (hb2.mono hb.size)⟩
  have HN : Hid (∀ w2, Below w.heap.size w w2 → Calls Tryz.prog 252 #[] w2 fun e w' => ∃ q, e = .returned (.pointer (some ⟨q, 0, none⟩)) ∧ Enc32 w' q ∧ Below w.heap.size w w') := Lib.hid fun w2 hb => by
    refine (zz32 w2).mono ?_
    rintro e w' ⟨q, rfl, _, hq, hb2⟩
    exact ⟨q, rfl, hq, hb.trans (hb2.mono hb.size)⟩
  have HF : Hid (∀ w2, Below w.heap.size w w2 → Calls Tryz.prog 249 #[.int .u64 (Lib.beNat [x, y]), .int .i64 10] w2 fun e w' => ∃ s, e = .returned (.string s) ∧ s.size ≤ 100 ∧ Below w.heap.size w w') := Lib.hid fun w2 hb => by
    refine (fmtUintS _ (by omega) w2 (he.up hb).tab).mono ?_
    rintro e w' ⟨s, rfl, hs, hb2⟩
    exact ⟨s, rfl, hs, hb.trans (hb2.mono hb.size)⟩
  have q1 : IntKind.u64.wrap ((Lib.beNat [x, y] : Nat) : Int) = ((Lib.beNat [x, y] : Nat) : Int) := IntWalk.u64_in _ (by omega)
  rw [hl] at hcp ⊢
  generalize Lib.beNat [x, y] = n at *
  clear hc h hx hy c0 c1 he hlt h10 hl hgl
  have hcpI : (10 : Int) ≤ (cp : Int) := by omega
  have hcpJ : (12 : Int) ≤ (cp : Int) := by omega
  have hcpN : 10 ≤ cp := by omega
  have hcpD : ¬ cp = 10 := by omega
  go_enter Tryz.func215, Tryz.ntmps215
  go_wp2
  go_region_held3 (fun w' => Below w.heap.size w w')
    (first
      | with_reducible assumption
      | exact (Below.refl _ _).drew)
    ((first
      | (go_at_call 252; (with_reducible refine (HN.out _ (by first | assumption | exact (Below.refl _ _).drew | exact Below.refl _ _)).mono ?_); rintro e w2 ⟨q, rfl, hq2, hb2⟩)
      | (go_at_call 256; (with_reducible refine (HE.out _ _ (by assumption) (by assumption)).mono ?_); rintro e w3 ⟨s3, rfl, hs3, hb3⟩)
      | (go_at_call 255; (with_reducible refine (HL.out _ _ (by assumption) (by assumption)).mono ?_); rintro e w4 ⟨s4, rfl, hs4, hb4⟩)))
  all_goals
    go_wp2
    go_region_held3 (fun w' => Below w.heap.size w w')
      (first
        | with_reducible assumption
        | exact hb4.drew)
      ((go_at_call 248; (with_reducible refine (HU.out _ hb4.drew).mono ?_); rintro e w5 ⟨rfl, hb5⟩))
    all_goals
      go_wp2_with (go_at_call 249; (with_reducible refine (HF.out _ (by assumption)).mono ?_); rintro e w6 ⟨s6, rfl, hs6, hb6⟩; have hcat : ((s4 ++ (⟨#[58]⟩ : ByteArray)).size : Int) + (s6.size : Int) ≤ 9223372036854775807 := (by rw [ByteArray.size_append]; show ((s4.size + 1 : Nat) : Int) + _ ≤ _; omega))
      go_ret2
      exact ⟨_, rfl, hb6⟩

set_option maxRecDepth 100000 in
set_option maxHeartbeats 8000000 in
theorem bts215N (l : List UInt8) (hl : l.length = 12) (h : (l.getD 10 0 == 0 && l.getD 11 0 == 0) = true) : BtsN 215 l := by
  intro w g o cp hcp he hc
  obtain ⟨x, hx⟩ : ∃ x, x = l[10] := ⟨_, rfl⟩
  obtain ⟨y, hy⟩ : ∃ y, y = l[11] := ⟨_, rfl⟩
  have c0 : w.cell? ⟨g, o + 10, none⟩ = some (.int .u8 x.toNat) := by rw [hx]; exact hc 10 (by omega)
  have c1 : w.cell? ⟨g, o + 10 + 1, none⟩ = some (.int .u8 y.toNat) := by rw [hy]; exact hc 11 (by omega)
  have hgl := World.block_lt_of_cell? w _ c0
  have HU : Hid (∀ w2, Below w.heap.size w w2 → Calls Tryz.prog 248 #[.agg #[], .slice (some ⟨g, o + 10, none⟩) 2 (cp - 10)] w2 fun e w' => e = .returned (.int .u16 (Lib.beNat [x, y])) ∧ Below w.heap.size w w') := Lib.hid fun w2 hb => by
    refine (Tryz.binary_BE_Uint16 g (o + 10) 2 (cp - 10) x y w2 (by decide) ((hb.cell (p := ⟨g, o + 10, none⟩) hgl).trans c0) ((hb.cell (p := ⟨g, o + 10 + 1, none⟩) hgl).trans c1)).mono ?_
    rintro e w' ⟨rfl, hb2⟩
    exact ⟨rfl, hb.trans (hb2.mono hb.size)⟩
  have hz : (((Lib.beNat [x, y] : Nat) : Int) == 0) = true := by
    have hxx : l.getD 10 0 = x := by rw [hx]; simp [List.getD, hl]
    have hyy : l.getD 11 0 = y := by rw [hy]; simp [List.getD, hl]
    rw [hxx, hyy] at h
    rw [be2]
    have h : x = 0 ∧ y = 0 := by simpa using h
    rw [h.1, h.2]
    decide
  have hlt := be2_lt x y
  have h10 : (l.take 10).length = 10 := by rw [List.length_take]; omega
  have HE : Hid (∀ w2 q, Below w.heap.size w w2 → Enc32 w2 q → Calls Tryz.prog 256 #[.pointer (some ⟨q, 0, none⟩), .slice (some ⟨g, o, none⟩) 10 cp] w2 fun e w' => ∃ s, e = .returned (.string s) ∧ s.size ≤ 2000000 ∧ Below w.heap.size w w') := Lib.hid fun w2 q hb hq => by
    have hat : At w2 g o (l.take 10) := At.below (l := l.take 10) (fun j hj => by rw [hc j (by rw [List.length_take] at hj; omega), List.getElem_take]) hb hgl
    have := encStr32 (l.take 10) (by omega) (by omega) q g o cp w2 hq hat (by omega)
    rw [h10] at this
    refine this.mono ?_
    rintro e w' ⟨s, rfl, hs, hb2⟩
    exact ⟨s, rfl, hs, hb.trans (hb2.mono hb.size)⟩
  have HL : Hid (∀ w2 s, Below w.heap.size w w2 → s.size ≤ 2000000 → Calls Tryz.prog 255 #[.string s] w2 fun e w' => ∃ t, e = .returned (.string t) ∧ t.size ≤ 2000000 ∧ Below w.heap.size w w') := Lib.hid fun w2 s hb hs => by
    refine (lower32 s hs w2).mono ?_
    rintro e w' ⟨t, rfl, ht, hb2⟩
    exact ⟨t, rfl, ht, hb.trans (hb2.mono hb.size)⟩
  have HN : Hid (∀ w2, Below w.heap.size w w2 → Calls Tryz.prog 252 #[] w2 fun e w' => ∃ q, e = .returned (.pointer (some ⟨q, 0, none⟩)) ∧ Enc32 w' q ∧ Below w.heap.size w w') := Lib.hid fun w2 hb => by
    refine (zz32 w2).mono ?_
    rintro e w' ⟨q, rfl, _, hq, hb2⟩
    exact ⟨q, rfl, hq, hb.trans (hb2.mono hb.size)⟩
  rw [hl] at hcp ⊢
  generalize Lib.beNat [x, y] = n at *
  clear hc h hx hy c0 c1 he hlt h10 hl hgl
  have hcpI : (10 : Int) ≤ (cp : Int) := by omega
  have hcpJ : (12 : Int) ≤ (cp : Int) := by omega
  have hcpN : 10 ≤ cp := by omega
  have hcpD : ¬ cp = 10 := by omega
  go_enter Tryz.func215, Tryz.ntmps215
  go_wp2
  go_region_held3 (fun w' => Below w.heap.size w w')
    (first
      | with_reducible assumption
      | exact (Below.refl _ _).drew)
    ((first
      | (go_at_call 252; (with_reducible refine (HN.out _ (by first | assumption | exact (Below.refl _ _).drew | exact Below.refl _ _)).mono ?_); rintro e w2 ⟨q, rfl, hq2, hb2⟩)
      | (go_at_call 256; (with_reducible refine (HE.out _ _ (by assumption) (by assumption)).mono ?_); rintro e w3 ⟨s3, rfl, hs3, hb3⟩)
      | (go_at_call 255; (with_reducible refine (HL.out _ _ (by assumption) (by assumption)).mono ?_); rintro e w4 ⟨s4, rfl, hs4, hb4⟩)))
  all_goals
    go_wp2
    go_region_held3 (fun w' => Below w.heap.size w w')
      (first
        | with_reducible assumption
        | exact hb4.drew)
      ((go_at_call 248; (with_reducible refine (HU.out _ hb4.drew).mono ?_); rintro e w5 ⟨rfl, hb5⟩))
    all_goals
      go_wp2_with (go_at_call 52; (with_reducible refine (errorsNew _ _).mono ?_); rintro e w6 ⟨t, p, rfl, hb6⟩)
      go_ret2
      exact ⟨_, t, p, rfl, hb5.trans (hb6.mono hb5.size)⟩

set_option maxRecDepth 100000 in
set_option maxHeartbeats 8000000 in
theorem bts218Y (l : List UInt8) (hl : l.length = 37) (h : (l.getD 35 0 == 0 && l.getD 36 0 == 0) = false) : BtsY 218 l := by
  intro w g o cp hcp he hc
  obtain ⟨x, hx⟩ : ∃ x, x = l[35] := ⟨_, rfl⟩
  obtain ⟨y, hy⟩ : ∃ y, y = l[36] := ⟨_, rfl⟩
  have c0 : w.cell? ⟨g, o + 35, none⟩ = some (.int .u8 x.toNat) := by rw [hx]; exact hc 35 (by omega)
  have c1 : w.cell? ⟨g, o + 35 + 1, none⟩ = some (.int .u8 y.toNat) := by rw [hy]; exact hc 36 (by omega)
  have hgl := World.block_lt_of_cell? w _ c0
  have HU : Hid (∀ w2, Below w.heap.size w w2 → Calls Tryz.prog 248 #[.agg #[], .slice (some ⟨g, o + 35, none⟩) 2 (cp - 35)] w2 fun e w' => e = .returned (.int .u16 (Lib.beNat [x, y])) ∧ Below w.heap.size w w') := Lib.hid fun w2 hb => by
    refine (Tryz.binary_BE_Uint16 g (o + 35) 2 (cp - 35) x y w2 (by decide) ((hb.cell (p := ⟨g, o + 35, none⟩) hgl).trans c0) ((hb.cell (p := ⟨g, o + 35 + 1, none⟩) hgl).trans c1)).mono ?_
    rintro e w' ⟨rfl, hb2⟩
    exact ⟨rfl, hb.trans (hb2.mono hb.size)⟩
  have hz : decide (((Lib.beNat [x, y] : Nat) : Int) < 1) = false := by
    have hxx : l.getD 35 0 = x := by rw [hx]; simp [List.getD, hl]
    have hyy : l.getD 36 0 = y := by rw [hy]; simp [List.getD, hl]
    rw [hxx, hyy] at h
    rw [be2]
    have h : ¬ (x = 0 ∧ y = 0) := by simpa using h
    have hx0 : x.toNat = 0 → x = 0 := fun e => UInt8.toNat_inj.1 (by simpa using e)
    have hy0 : y.toNat = 0 → y = 0 := fun e => UInt8.toNat_inj.1 (by simpa using e)
    have : ((x.toNat * 256 + y.toNat : Nat) : Int) ≠ 0 := fun e => h ⟨hx0 (by omega), hy0 (by omega)⟩
    simp only [decide_eq_false_iff_not]; omega
  have hlt := be2_lt x y
  have h10 : (l.take 35).length = 35 := by rw [List.length_take]; omega
  have HE : Hid (∀ w2 q, Below w.heap.size w w2 → Enc32 w2 q → Calls Tryz.prog 256 #[.pointer (some ⟨q, 0, none⟩), .slice (some ⟨g, o, none⟩) 35 cp] w2 fun e w' => ∃ s, e = .returned (.string s) ∧ s.size ≤ 2000000 ∧ Below w.heap.size w w') := Lib.hid fun w2 q hb hq => by
    have hat : At w2 g o (l.take 35) := At.below (l := l.take 35) (fun j hj => by rw [hc j (by rw [List.length_take] at hj; omega), List.getElem_take]) hb hgl
    have := encStr32 (l.take 35) (by omega) (by omega) q g o cp w2 hq hat (by omega)
    rw [h10] at this
    refine this.mono ?_
    rintro e w' ⟨s, rfl, hs, hb2⟩
    exact ⟨s, rfl, hs, hb.trans (hb2.mono hb.size)⟩
  have HL : Hid (∀ w2 s, Below w.heap.size w w2 → s.size ≤ 2000000 → Calls Tryz.prog 255 #[.string s] w2 fun e w' => ∃ t, e = .returned (.string t) ∧ t.size ≤ 2000000 ∧ Below w.heap.size w w') := Lib.hid fun w2 s hb hs => by
    refine (lower32 s hs w2).mono ?_
    rintro e w' ⟨t, rfl, ht, hb2⟩
    exact ⟨t, rfl, ht, hb.trans (hb2.mono hb.size)⟩
  have HN : Hid (∀ w2, Below w.heap.size w w2 → Calls Tryz.prog 252 #[] w2 fun e w' => ∃ q, e = .returned (.pointer (some ⟨q, 0, none⟩)) ∧ Enc32 w' q ∧ Below w.heap.size w w') := Lib.hid fun w2 hb => by
    refine (zz32 w2).mono ?_
    rintro e w' ⟨q, rfl, _, hq, hb2⟩
    exact ⟨q, rfl, hq, hb.trans (hb2.mono hb.size)⟩
  have HF : Hid (∀ w2, Below w.heap.size w w2 → Calls Tryz.prog 249 #[.int .u64 (Lib.beNat [x, y]), .int .i64 10] w2 fun e w' => ∃ s, e = .returned (.string s) ∧ s.size ≤ 100 ∧ Below w.heap.size w w') := Lib.hid fun w2 hb => by
    refine (fmtUintS _ (by omega) w2 (he.up hb).tab).mono ?_
    rintro e w' ⟨s, rfl, hs, hb2⟩
    exact ⟨s, rfl, hs, hb.trans (hb2.mono hb.size)⟩
  have q1 : IntKind.u64.wrap ((Lib.beNat [x, y] : Nat) : Int) = ((Lib.beNat [x, y] : Nat) : Int) := IntWalk.u64_in _ (by omega)
  rw [hl] at hcp ⊢
  generalize Lib.beNat [x, y] = n at *
  clear hc h hx hy c0 c1 he hlt h10 hl hgl
  have hcpI : (35 : Int) ≤ (cp : Int) := by omega
  have hcpJ : (37 : Int) ≤ (cp : Int) := by omega
  have hcpN : 35 ≤ cp := by omega
  have hcpD : ¬ cp = 35 := by omega
  go_enter Tryz.func218, Tryz.ntmps218
  go_wp2
  go_region_held3 (fun w' => Below w.heap.size w w')
    (first
      | with_reducible assumption
      | exact (Below.refl _ _).drew)
    ((first
      | (go_at_call 252; (with_reducible refine (HN.out _ (by first | assumption | exact (Below.refl _ _).drew | exact Below.refl _ _)).mono ?_); rintro e w2 ⟨q, rfl, hq2, hb2⟩)
      | (go_at_call 256; (with_reducible refine (HE.out _ _ (by assumption) (by assumption)).mono ?_); rintro e w3 ⟨s3, rfl, hs3, hb3⟩)
      | (go_at_call 255; (with_reducible refine (HL.out _ _ (by assumption) (by assumption)).mono ?_); rintro e w4 ⟨s4, rfl, hs4, hb4⟩)))
  all_goals
    go_wp2
    go_region_held3 (fun w' => Below w.heap.size w w')
      (first
        | with_reducible assumption
        | exact hb4.drew)
      ((go_at_call 248; (with_reducible refine (HU.out _ hb4.drew).mono ?_); rintro e w5 ⟨rfl, hb5⟩))
    all_goals
      go_wp2_with (go_at_call 249; (with_reducible refine (HF.out _ (by assumption)).mono ?_); rintro e w6 ⟨s6, rfl, hs6, hb6⟩; have hcat : ((s4 ++ (⟨#[58]⟩ : ByteArray)).size : Int) + (s6.size : Int) ≤ 9223372036854775807 := (by rw [ByteArray.size_append]; show ((s4.size + 1 : Nat) : Int) + _ ≤ _; omega))
      go_ret2
      exact ⟨_, rfl, hb6⟩

set_option maxRecDepth 100000 in
set_option maxHeartbeats 8000000 in
theorem bts218N (l : List UInt8) (hl : l.length = 37) (h : (l.getD 35 0 == 0 && l.getD 36 0 == 0) = true) : BtsN 218 l := by
  intro w g o cp hcp he hc
  obtain ⟨x, hx⟩ : ∃ x, x = l[35] := ⟨_, rfl⟩
  obtain ⟨y, hy⟩ : ∃ y, y = l[36] := ⟨_, rfl⟩
  have c0 : w.cell? ⟨g, o + 35, none⟩ = some (.int .u8 x.toNat) := by rw [hx]; exact hc 35 (by omega)
  have c1 : w.cell? ⟨g, o + 35 + 1, none⟩ = some (.int .u8 y.toNat) := by rw [hy]; exact hc 36 (by omega)
  have hgl := World.block_lt_of_cell? w _ c0
  have HU : Hid (∀ w2, Below w.heap.size w w2 → Calls Tryz.prog 248 #[.agg #[], .slice (some ⟨g, o + 35, none⟩) 2 (cp - 35)] w2 fun e w' => e = .returned (.int .u16 (Lib.beNat [x, y])) ∧ Below w.heap.size w w') := Lib.hid fun w2 hb => by
    refine (Tryz.binary_BE_Uint16 g (o + 35) 2 (cp - 35) x y w2 (by decide) ((hb.cell (p := ⟨g, o + 35, none⟩) hgl).trans c0) ((hb.cell (p := ⟨g, o + 35 + 1, none⟩) hgl).trans c1)).mono ?_
    rintro e w' ⟨rfl, hb2⟩
    exact ⟨rfl, hb.trans (hb2.mono hb.size)⟩
  have hz : decide (((Lib.beNat [x, y] : Nat) : Int) < 1) = true := by
    have hxx : l.getD 35 0 = x := by rw [hx]; simp [List.getD, hl]
    have hyy : l.getD 36 0 = y := by rw [hy]; simp [List.getD, hl]
    rw [hxx, hyy] at h
    rw [be2]
    have h : x = 0 ∧ y = 0 := by simpa using h
    rw [h.1, h.2]
    decide
  have hlt := be2_lt x y
  have h10 : (l.take 35).length = 35 := by rw [List.length_take]; omega
  have HE : Hid (∀ w2 q, Below w.heap.size w w2 → Enc32 w2 q → Calls Tryz.prog 256 #[.pointer (some ⟨q, 0, none⟩), .slice (some ⟨g, o, none⟩) 35 cp] w2 fun e w' => ∃ s, e = .returned (.string s) ∧ s.size ≤ 2000000 ∧ Below w.heap.size w w') := Lib.hid fun w2 q hb hq => by
    have hat : At w2 g o (l.take 35) := At.below (l := l.take 35) (fun j hj => by rw [hc j (by rw [List.length_take] at hj; omega), List.getElem_take]) hb hgl
    have := encStr32 (l.take 35) (by omega) (by omega) q g o cp w2 hq hat (by omega)
    rw [h10] at this
    refine this.mono ?_
    rintro e w' ⟨s, rfl, hs, hb2⟩
    exact ⟨s, rfl, hs, hb.trans (hb2.mono hb.size)⟩
  have HL : Hid (∀ w2 s, Below w.heap.size w w2 → s.size ≤ 2000000 → Calls Tryz.prog 255 #[.string s] w2 fun e w' => ∃ t, e = .returned (.string t) ∧ t.size ≤ 2000000 ∧ Below w.heap.size w w') := Lib.hid fun w2 s hb hs => by
    refine (lower32 s hs w2).mono ?_
    rintro e w' ⟨t, rfl, ht, hb2⟩
    exact ⟨t, rfl, ht, hb.trans (hb2.mono hb.size)⟩
  have HN : Hid (∀ w2, Below w.heap.size w w2 → Calls Tryz.prog 252 #[] w2 fun e w' => ∃ q, e = .returned (.pointer (some ⟨q, 0, none⟩)) ∧ Enc32 w' q ∧ Below w.heap.size w w') := Lib.hid fun w2 hb => by
    refine (zz32 w2).mono ?_
    rintro e w' ⟨q, rfl, _, hq, hb2⟩
    exact ⟨q, rfl, hq, hb.trans (hb2.mono hb.size)⟩
  rw [hl] at hcp ⊢
  generalize Lib.beNat [x, y] = n at *
  clear hc h hx hy c0 c1 he hlt h10 hl hgl
  have hcpI : (35 : Int) ≤ (cp : Int) := by omega
  have hcpJ : (37 : Int) ≤ (cp : Int) := by omega
  have hcpN : 35 ≤ cp := by omega
  have hcpD : ¬ cp = 35 := by omega
  go_enter Tryz.func218, Tryz.ntmps218
  go_wp2
  go_region_held3 (fun w' => Below w.heap.size w w')
    (first
      | with_reducible assumption
      | exact (Below.refl _ _).drew)
    ((first
      | (go_at_call 252; (with_reducible refine (HN.out _ (by first | assumption | exact (Below.refl _ _).drew | exact Below.refl _ _)).mono ?_); rintro e w2 ⟨q, rfl, hq2, hb2⟩)
      | (go_at_call 256; (with_reducible refine (HE.out _ _ (by assumption) (by assumption)).mono ?_); rintro e w3 ⟨s3, rfl, hs3, hb3⟩)
      | (go_at_call 255; (with_reducible refine (HL.out _ _ (by assumption) (by assumption)).mono ?_); rintro e w4 ⟨s4, rfl, hs4, hb4⟩)))
  all_goals
    go_wp2
    go_region_held3 (fun w' => Below w.heap.size w w')
      (first
        | with_reducible assumption
        | exact hb4.drew)
      ((go_at_call 248; (with_reducible refine (HU.out _ hb4.drew).mono ?_); rintro e w5 ⟨rfl, hb5⟩))
    all_goals
      go_wp2_with (go_at_call 52; (with_reducible refine (errorsNew _ _).mono ?_); rintro e w6 ⟨t, p, rfl, hb6⟩)
      go_ret2
      exact ⟨_, t, p, rfl, hb5.trans (hb6.mono hb5.size)⟩

set_option maxRecDepth 100000 in
set_option maxHeartbeats 8000000 in
theorem bts224Y (l : List UInt8) (hl : 35 ≤ l.length ∨ l.length = 32) (hlim : l.length ≤ 1000000) : BtsY 224 l := by
  intro w g o cp hcp he hc
  have hgl : g < w.heap.size := At.lt (l := l) hc (by omega)
  have HV := Lib.hid (val225Y l hl w g o cp hcp he hc)
  have HE : Hid (∀ w2 q, Below w.heap.size w w2 → Enc32 w2 q → Calls Tryz.prog 256 #[.pointer (some ⟨q, 0, none⟩), .slice (some ⟨g, o, none⟩) l.length cp] w2 fun e w' => ∃ s, e = .returned (.string s) ∧ s.size ≤ 2000000 ∧ Below w.heap.size w w') := Lib.hid fun w2 q hb hq => by
    refine (encStr32 l (by omega) (by omega) q g o cp w2 hq (At.below (l := l) hc hb hgl) (by omega)).mono ?_
    rintro e w' ⟨s, rfl, hs, hb2⟩
    exact ⟨s, rfl, hs, hb.trans (hb2.mono hb.size)⟩
  have HT : Hid (∀ w2 s, Below w.heap.size w w2 → s.size ≤ 2000000 → Calls Tryz.prog 103 #[.string s, .string ⟨#[61]⟩] w2 fun e w' => ∃ t, e = .returned (.string t) ∧ Below w.heap.size w w') := Lib.hid fun w2 s hb hs => by
    refine (trim1 s 61 w2 (by omega)).mono ?_
    rintro e w' ⟨t, rfl, ht, hb2⟩
    exact ⟨t, rfl, hb.trans (hb2.mono hb.size)⟩
  have HN : Hid (∀ w2, Below w.heap.size w w2 → Calls Tryz.prog 260 #[] w2 fun e w' => ∃ q, e = .returned (.pointer (some ⟨q, 0, none⟩)) ∧ Enc32 w' q ∧ Below w.heap.size w w') := Lib.hid fun w2 hb => by
    refine (gar32 w2).mono ?_
    rintro e w' ⟨q, rfl, _, hq, hb2⟩
    exact ⟨q, rfl, hq, hb.trans (hb2.mono hb.size)⟩
  generalize l.length = n at *
  clear hc he hgl
  go_enter Tryz.func224, Tryz.ntmps224
  go_wp2_with (first
    | (go_at_call 225; (with_reducible refine HV.out.mono ?_); rintro e w2 ⟨rfl, hb2⟩)
    | (go_at_call 260; (with_reducible refine (HN.out _ hb2).mono ?_); rintro e w3 ⟨q, rfl, hq3, hb3⟩)
    | (go_at_call 256; (with_reducible refine (HE.out _ _ hb3 hq3).mono ?_); rintro e w4 ⟨s4, rfl, hs4, hb4⟩)
    | (go_at_call 103; (with_reducible refine (HT.out _ _ hb4 hs4).mono ?_); rintro e w5 ⟨s5, rfl, hb5⟩))
  go_ret2
  exact ⟨_, rfl, hb5⟩

set_option maxRecDepth 100000 in
set_option maxHeartbeats 8000000 in
theorem bts224N (l : List UInt8) (hl : ¬ (35 ≤ l.length ∨ l.length = 32)) : BtsN 224 l := by
  intro w g o cp hcp he hc
  have HV := Lib.hid (val225N l hl w g o cp hcp he hc)
  generalize l.length = n at *
  clear hc he
  go_enter Tryz.func224, Tryz.ntmps224
  go_wp2_with (go_at_call 225; (with_reducible refine HV.out.mono ?_); rintro e w2 ⟨t, p, rfl, hb2⟩)
  go_ret2
  exact ⟨_, t, p, rfl, hb2⟩
end Go.Proofs.YtnpcmmjdojdmnaaGreatDoor
