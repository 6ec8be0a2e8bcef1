/- FormatUint (282, 249) at base 10: a text, for every uint64. Simple transcoders: texts, lengths, one byte, a path; bytes.IndexByte. Names without a slash; paths; ports; memory addresses: BytesToString, ValidateBytes. Ports, memory addresses, onion addresses' checks. The transcoders of IP addresses: BytesToString at any bytes. -/
import Derived.Test.YtnpcmmjdojdmnaaGreatDoorSh
import Derived.Lib.ItoaMem
import Derived.BigCall
import Derived.BigGuard
import Derived.Test.YtnpcmmjdojdmnaaGreatDoorSe
import Derived.Lib.BytesEntry
import Derived.Lib.IndexAny
namespace Go.Proofs.YtnpcmmjdojdmnaaGreatDoor
open Go Go.RowKit Go.Sort

theorem holds_zero0 (w : World) (T : TypeId) (nd : Nat) (hs : nd ≤ 24) : Holds (fun (b : UInt8) => Value.int .u8 (b.toNat : Int)) (w.alloc (.cells Lib.zeros24 T)) w.heap.size 0 (Array.replicate nd (0 : UInt8)) := fun j hj => by
  have hj' : j < nd := by simpa using hj
  refine ⟨?_, World.frozen?_alloc_new _ _ _ _⟩
  rw [World.cell?_alloc_new, Lib.zeros24_at _ (by omega), getElem!_pos _ j hj]
  simp

theorem fin_pos0 (w : World) (o : Obj) (dk : Array UInt8) (k : Nat) : ∃ os, (putRow (fun (b : UInt8) => Value.int .u8 (b.toNat : Int)) (w.alloc o) w.heap.size 0 dk).drewN k = grow (w.drewN k) os := by
  rw [alloc_eq_grow]
  obtain ⟨os', _, e⟩ := putRow_grow_new (fun (b : UInt8) => Value.int .u8 (b.toNat : Int)) w #[o] w.heap.size 0 dk (Nat.le_refl _)
  exact ⟨os', by rw [e]; rfl⟩

set_option maxRecDepth 100000 in
set_option maxHeartbeats 8000000 in
theorem fmtUint_big (u : Nat) (h100 : 100 ≤ u) (hu64 : u < 18446744073709551616) (w : World) (ht : Tab w) : Calls Tryz.prog 282 #[.int .u64 u, .int .i64 10] w fun e w' => ∃ s, e = .returned (.string s) ∧ Below w.heap.size w w' := by
  have htab : Lib.TabIs Tryz.prog w "internal/strconv.uint64pow10" .u64 Lib.pow10Tab := ht
  have hu1 : 1 ≤ u := by omega
  have hnd20 : Lib.nDigits u ≤ 20 := by have := Lib.numDigits_eq u hu1 hu64; split at this <;> omega
  have hb3 : Lib.nDigits u ≤ 24 := by omega
  have hal : Tryz.prog.arrayLen 216 = 24 := by simp [Program.arrayLen, Tryz.underlying216]
  have hsl1 : ∀ W, (Instr.sliceAt 216 (.pointer (some ⟨w.heap.size, 0, none⟩)) none (some (.int .i64 (Lib.nDigits u : Int))) none).run Tryz.prog W = .ok (.slice (some ⟨w.heap.size, 0, none⟩) (Lib.nDigits u) 24) W := fun W => by
    rw [run_sliceAt_array_h W 216 ⟨w.heap.size, 0, none⟩ (by simp [Program.arrayLen, Program.elem, Tryz.underlying216]) .i64 (Lib.nDigits u : Int) (by omega) (by rw [hal]; omega)]
    go_simp
  have hH0 := holds_zero0 w 216 (Lib.nDigits u) (by omega)
  have hfmt := Tryz.internal_strconv_formatBase10 w.heap.size 0 24 u (Array.replicate (Lib.nDigits u) 0) (w.alloc (.cells Lib.zeros24 216)) hH0 (by rw [Array.size_replicate]; exact Lib.lt_pow_nDigits u) hu64 (by rw [Array.size_replicate]; omega)
  rw [Array.size_replicate] at hfmt
  have HH0 := Lib.hid hH0
  have HF := Lib.hid hfmt
  have e1 : decide ((u : Int) < 100) = false := by simp; omega
  clear hH0 hal hfmt ht
  go_enter Tryz.func282, Tryz.ntmps282
  go_wp2_with (first
    | (go_at_call 276; refine (Tryz.internal_strconv_numDigits u hu1 hu64 _ (Lib.tabIs_alloc htab _)).mono ?_; rintro e w' ⟨rfl, rfl⟩)
    | (go_at_call 277; refine HF.out.mono ?_; rintro e w' ⟨rfl, k, v', dk, rfl, hF⟩; refine Hid.out ?_))
  refine Lib.hid ?_
  have hcv : (convert 22 9 (.slice (some ⟨w.heap.size, 0, none⟩) (Lib.nDigits u) 24)).run Tryz.prog ((putRow (fun (b : UInt8) => Value.int .u8 (b.toNat : Int)) (w.alloc (.cells Lib.zeros24 216)) w.heap.size 0 dk).drewN k) = .ok (.string ⟨(Lib.decDigits u).toArray⟩) ((putRow (fun (b : UInt8) => Value.int .u8 (b.toNat : Int)) (w.alloc (.cells Lib.zeros24 216)) w.heap.size 0 dk).drewN k) := by
    have h := run_convert_bytes_back (P := Tryz.prog) ((putRow (fun (b : UInt8) => Value.int .u8 (b.toNat : Int)) (w.alloc (.cells Lib.zeros24 216)) w.heap.size 0 dk).drewN k) 22 9 5 ⟨w.heap.size, 0, none⟩ 24 (Lib.decDigits u) Tryz.underlying22 Tryz.underlying5 Tryz.underlying9 (fun j hj => by
      rw [Lib.row_is_numeral hF j hj, Lib.add_plain, World.cell?_drewN]
      exact cell?_putRow (fun (b : UInt8) => Value.int .u8 (b.toNat : Int)) _ w.heap.size 0 _ dk HH0.out (by rw [hF.size, Array.size_replicate]) j (by rw [hF.size]; rw [Lib.decDigits_length] at hj; exact hj))
    rw [Lib.decDigits_length] at h
    exact h
  go_wp2
  go_ret
  obtain ⟨os, eo⟩ := fin_pos0 w (.cells Lib.zeros24 216) dk k
  exact ⟨_, rfl, by rw [eo]; exact below_grow (below_drewN (Below.refl _ _) _) (Nat.le_refl _) os⟩

set_option maxRecDepth 100000 in
set_option maxHeartbeats 4000000 in
theorem fmtUintA (u : Nat) (hu64 : u < 18446744073709551616) (w : World) (ht : Tab w) : Calls Tryz.prog 249 #[.int .u64 u, .int .i64 10] w fun e w' => ∃ s, e = .returned (.string s) ∧ Below w.heap.size w w' := by
  by_cases h100 : u < 100
  · refine (fmtUint u h100 w).mono ?_
    rintro e w' ⟨s, rfl, rfl⟩
    exact ⟨s, rfl, Below.refl _ _⟩
  · have HI := Lib.hid (fmtUint_big u (by omega) hu64 w ht)
    clear ht h100
    go_enter Tryz.func249, Tryz.ntmps249
    go_wp2_with (go_at_call 282; (with_reducible refine HI.out.mono ?_); rintro e w2 ⟨s, rfl, hb⟩)
    go_ret
    exact ⟨s, rfl, hb⟩
end Go.Proofs.YtnpcmmjdojdmnaaGreatDoor
namespace Go.Proofs.YtnpcmmjdojdmnaaGreatDoor
open Go Go.RowKit Go.Sort

theorem len_ne0 {l : List UInt8} (hl : 0 < l.length) : ((l.length : Int) == 0) = false := by
  have : (l.length : Int) ≠ 0 := by omega
  simpa using this

set_option maxRecDepth 100000 in
set_option maxHeartbeats 4000000 in
theorem bts204 (l : List UInt8) : BtsY 204 l := by
  intro w g o cp _ _ hc
  have hcv := convert_bytes hc.bytes cp
  clear hc
  go_enter Tryz.func204, Tryz.ntmps204
  go_wp2
  go_ret2
  exact ⟨_, rfl, Below.refl _ _⟩

set_option maxRecDepth 100000 in
set_option maxHeartbeats 4000000 in
theorem bts236 (l : List UInt8) : BtsY 236 l := by
  intro w g o cp _ _ hc
  have hcv := convert_bytes hc.bytes cp
  clear hc
  go_enter Tryz.func236, Tryz.ntmps236
  go_wp2
  go_ret2
  exact ⟨_, rfl, Below.refl _ _⟩

set_option maxRecDepth 100000 in
set_option maxHeartbeats 4000000 in
theorem bts209 (l : List UInt8) (hl : 0 < l.length) : BtsY 209 l := by
  intro w g o cp _ _ hc
  have hcv := convert_bytes hc.bytes cp
  have e0 := len_ne0 hl
  clear hc
  go_enter Tryz.func209, Tryz.ntmps209
  go_wp2
  go_ret2
  exact ⟨_, rfl, Below.refl _ _⟩

set_option maxRecDepth 100000 in
set_option maxHeartbeats 4000000 in
theorem val213 (x : UInt8) : ValY 213 [x] := by
  intro w g o cp _ _ _
  show Calls Tryz.prog 213 #[.slice (some ⟨g, o, none⟩) 1 cp] w _
  go_enter Tryz.func213, Tryz.ntmps213
  go_wp2
  go_ret
  exact ⟨rfl, Below.refl _ _⟩

set_option maxRecDepth 100000 in
set_option maxHeartbeats 4000000 in
theorem bts212 (x : UInt8) : BtsY 212 [x] := by
  intro w g o cp hcp he hc
  have H213 := Lib.hid (val213 x w g o cp hcp he hc)
  have c0 : w.cell? ⟨g, o, none⟩ = some (.int .u8 x.toNat) := hc 0 (by simp)
  have hx := x.toNat_lt
  have hgl := World.block_lt_of_cell? w _ c0
  have HI : Hid (∀ w2, Below w.heap.size w w2 → Calls Tryz.prog 161 #[.int .i64 x.toNat] w2 fun e w' => ∃ s, e = .returned (.string s) ∧ Below w.heap.size w w') := Lib.hid fun w2 hb => by
    refine (Tryz.strconv_Itoa (x.toNat : Int) (by omega) (by omega) w2 (he.up hb).tab).mono ?_
    rintro e w' ⟨rfl, k, os, rfl⟩
    exact ⟨_, rfl, hb.trans (below_grow (below_drewN ((Below.refl _ _).mono hb.size) _) (by simpa using hb.size) os)⟩
  have HC : Hid (∀ w2, Below w.heap.size w w2 → w2.cell? ⟨g, o, none⟩ = some (.int .u8 x.toNat)) := Lib.hid fun w2 hb => (hb.cell (p := ⟨g, o, none⟩) hgl).trans c0
  have e1 : IntKind.i64.wrap (x.toNat : Int) = x.toNat := IntWalk.i64_in _ (by omega)
  show Calls Tryz.prog 212 #[.slice (some ⟨g, o, none⟩) 1 cp] w _
  have H213' : Hid (Calls Tryz.prog 213 #[.slice (some ⟨g, o, none⟩) 1 cp] w fun e w' => e = .returned .nilIface ∧ Below w.heap.size w w') := H213
  clear hc he c0 H213
  go_enter Tryz.func212, Tryz.ntmps212
  go_wp2_with (first
    | (go_at_call 213; (with_reducible refine H213'.out.mono ?_); rintro e w2 ⟨rfl, hb⟩; have c0 := HC.out w2 hb)
    | (go_at_call 161; (with_reducible refine (HI.out w2 hb).mono ?_); rintro e w3 ⟨s, rfl, hb3⟩))
  go_ret2
  exact ⟨_, rfl, hb3⟩

set_option maxRecDepth 100000 in
set_option maxHeartbeats 4000000 in
theorem val231 (l : List UInt8) (hl : 0 < l.length) : ValY 231 l := by
  intro w g o cp _ _ _
  have e0 := len_ne0 hl
  go_enter Tryz.func231, Tryz.ntmps231
  go_wp2
  go_ret
  exact ⟨rfl, Below.refl _ _⟩

set_option maxRecDepth 100000 in
set_option maxHeartbeats 4000000 in
theorem val240 (l : List UInt8) (hl : l.length = 8) : ValY 240 l := by
  intro w g o cp _ _ _
  rw [hl]
  go_enter Tryz.func240, Tryz.ntmps240
  go_wp2
  go_ret
  exact ⟨rfl, Below.refl _ _⟩

set_option maxRecDepth 100000 in
set_option maxHeartbeats 4000000 in
theorem val222Y (l : List UInt8) (hl : 386 ≤ l.length) : ValY 222 l := by
  intro w g o cp _ _ _
  have e0 : decide ((l.length : Int) < 386) = false := by simp; omega
  go_enter Tryz.func222, Tryz.ntmps222
  go_wp2
  go_ret
  exact ⟨rfl, Below.refl _ _⟩
set_option maxRecDepth 100000 in
set_option maxHeartbeats 4000000 in
theorem val222N (l : List UInt8) (hl : ¬ 386 ≤ l.length) : ValN 222 l := by
  intro w g o cp _ _ _
  have e0 : decide ((l.length : Int) < 386) = true := by simp; omega
  go_enter Tryz.func222, Tryz.ntmps222
  go_wp2_with (go_at_call 52; (with_reducible refine (errorsNew _ _).mono ?_); rintro e w5 ⟨t, p, rfl, hb5⟩)
  go_ret
  exact ⟨t, p, rfl, hb5⟩

set_option maxRecDepth 100000 in
set_option maxHeartbeats 4000000 in
theorem val225Y (l : List UInt8) (hl : 35 ≤ l.length ∨ l.length = 32) : ValY 225 l := by
  intro w g o cp _ _ _
  rcases hl with hl | hl
  · have e0 : decide ((l.length : Int) < 35) = false := by simp; omega
    go_enter Tryz.func225, Tryz.ntmps225
    go_wp2
    go_ret
    exact ⟨rfl, Below.refl _ _⟩
  · rw [hl]
    go_enter Tryz.func225, Tryz.ntmps225
    go_wp2
    go_ret
    exact ⟨rfl, Below.refl _ _⟩
set_option maxRecDepth 100000 in
set_option maxHeartbeats 4000000 in
theorem val225N (l : List UInt8) (hl : ¬ (35 ≤ l.length ∨ l.length = 32)) : ValN 225 l := by
  intro w g o cp _ _ _
  have e0 : decide ((l.length : Int) < 35) = true := by simp; omega
  have e1 : ((l.length : Int) != 32) = true := by
    have : (l.length : Int) ≠ 32 := by omega
    simpa using this
  go_enter Tryz.func225, Tryz.ntmps225
  go_wp2_with (go_at_call 52; (with_reducible refine (errorsNew _ _).mono ?_); rintro e w5 ⟨t, p, rfl, hb5⟩)
  go_ret
  exact ⟨t, p, rfl, hb5⟩

set_option maxRecDepth 100000 in
set_option maxHeartbeats 4000000 in
theorem indexByte47 (l : List UInt8) (g o cp : Nat) (w : World) (hc : At w g o l) :
    Calls Tryz.prog 250 #[.slice (some ⟨g, o, none⟩) l.length cp, .int .u8 47] w fun e w' => e = .returned (.int .i64 (Lib.indexByte l 47)) ∧ w' = w := by
  have hx : (l.map fun b => (b.toNat : Int)).length = l.length := by simp
  have hcc : ∀ i, i < l.length → w.cell? ⟨g, o + i, none⟩ = some (.int .u8 ((l.map fun b => (b.toNat : Int)).getD i 0)) := fun i hi => by
    rw [hc i hi]
    simp [List.getD, hi]
  have hE : Lib.bytesOf (l.map fun b => (b.toNat : Int)) = l := by
    rw [Lib.bytesOf, List.map_map]
    conv => rhs; rw [← List.map_id l]
    refine List.map_congr_left fun b _ => ?_
    simp
  go_enter Tryz.func250, Tryz.ntmps250
  go_wp2
  rw [run_callFunc_extern Tryz.func283 (by kernel_rfl) (by kernel_rfl) (by kernel_rfl) (e := Extern.BytealgIndexByte.indexByte) (by kernel_rfl), Lib.run_indexByteSlice w g o l.length cp _ hx hcc 47]
  simp only [Result.andThen]
  rw [Oper.upon_value]
  go_wp2
  go_ret
  exact ⟨rfl, rfl⟩
end Go.Proofs.YtnpcmmjdojdmnaaGreatDoor
namespace Go.Proofs.YtnpcmmjdojdmnaaGreatDoor
open Go Go.RowKit Go.Sort

theorem idx_yes {l : List UInt8} (h : l.contains 47 = true) : decide (0 ≤ Lib.indexByte l 47) = true := by rw [← Lib.contains_iff_indexByte]; exact h
theorem idx_no {l : List UInt8} (h : l.contains 47 = false) : decide (0 ≤ Lib.indexByte l 47) = false := by rw [← Lib.contains_iff_indexByte]; exact h

set_option maxRecDepth 100000 in
set_option maxHeartbeats 4000000 in
theorem val205Y (l : List UInt8) (hl : 0 < l.length) (h : l.contains 47 = false) : ValY 205 l := by
  intro w g o cp _ _ hc
  have HI := Lib.hid (indexByte47 l g o cp w hc)
  have e0 := len_ne0 hl
  have e1 := idx_no h
  clear hc h
  go_enter Tryz.func205, Tryz.ntmps205
  go_wp2_with (go_at_call 250; (with_reducible refine HI.out.mono ?_); rintro e w2 ⟨rfl, rfl⟩)
  go_ret
  exact ⟨rfl, Below.refl _ _⟩
set_option maxRecDepth 100000 in
set_option maxHeartbeats 4000000 in
theorem val205N (l : List UInt8) (hl : 0 < l.length) (h : l.contains 47 = true) : ValN 205 l := by
  intro w g o cp _ _ hc
  have HI := Lib.hid (indexByte47 l g o cp w hc)
  have e0 := len_ne0 hl
  have e1 := idx_yes h
  clear hc h
  go_enter Tryz.func205, Tryz.ntmps205
  go_wp2_with (first
    | (go_at_call 250; (with_reducible refine HI.out.mono ?_); rintro e w2 ⟨rfl, rfl⟩)
    | (go_at_call 52; (with_reducible refine (errorsNew _ _).mono ?_); rintro e w5 ⟨t, p, rfl, hb5⟩))
  go_ret
  exact ⟨t, p, rfl, hb5⟩

set_option maxRecDepth 100000 in
set_option maxHeartbeats 4000000 in
theorem val210Y (l : List UInt8) (hl : 0 < l.length) (h : l.contains 47 = false) : ValY 210 l := by
  intro w g o cp _ _ hc
  have HI := Lib.hid (indexByte47 l g o cp w hc)
  have e0 := len_ne0 hl
  have e1 := idx_no h
  clear hc h
  go_enter Tryz.func210, Tryz.ntmps210
  go_wp2_with (go_at_call 250; (with_reducible refine HI.out.mono ?_); rintro e w2 ⟨rfl, rfl⟩)
  go_ret
  exact ⟨rfl, Below.refl _ _⟩
set_option maxRecDepth 100000 in
set_option maxHeartbeats 4000000 in
theorem val210N (l : List UInt8) (hl : 0 < l.length) (h : l.contains 47 = true) : ValN 210 l := by
  intro w g o cp _ _ hc
  have HI := Lib.hid (indexByte47 l g o cp w hc)
  have e0 := len_ne0 hl
  have e1 := idx_yes h
  clear hc h
  go_enter Tryz.func210, Tryz.ntmps210
  go_wp2_with (first
    | (go_at_call 250; (with_reducible refine HI.out.mono ?_); rintro e w2 ⟨rfl, rfl⟩)
    | (go_at_call 52; (with_reducible refine (errorsNew _ _).mono ?_); rintro e w5 ⟨t, p, rfl, hb5⟩))
  go_ret
  exact ⟨t, p, rfl, hb5⟩
set_option maxRecDepth 100000 in
set_option maxHeartbeats 4000000 in
theorem val237Y (l : List UInt8) (h2 : 2 ≤ l.length) (h0 : l.getD 0 0 = 47) (h1 : l.getD (l.length - 1) 0 ≠ 47) (hmax : l.length ≤ 1000000) : ValY 237 l := by
  intro w g o cp _ _ hc
  have c0 : w.cell? ⟨g, o, none⟩ = some (.int .u8 47) := by
    have := hc 0 (by omega)
    have e : l[0] = 47 := by simpa [List.getD, show 0 < l.length by omega] using h0
    rw [e] at this
    exact this
  obtain ⟨x, hx⟩ : ∃ x, x = l[l.length - 1] := ⟨_, rfl⟩
  have c1 : w.cell? ⟨g, o + (l.length - 1), none⟩ = some (.int .u8 x.toNat) := by rw [hx]; exact hc (l.length - 1) (by omega)
  have hx47 : x ≠ 47 := by
    intro e
    apply h1
    rw [← e, hx]
    simp [List.getD, show l.length - 1 < l.length by omega]
  have e0 : decide ((l.length : Int) < 2) = false := by simp; omega
  have e1 : ((x.toNat : Int) == 47) = false := by
    have : (x.toNat : Int) ≠ 47 := fun e => hx47 (UInt8.toNat_inj.1 (by simp; omega))
    simpa using this
  have e2 : IntKind.i64.wrap ((l.length : Int) - 1) = ((l.length - 1 : Nat) : Int) := by rw [IntWalk.i64_in _ (by omega)]; omega
  have e3 : (((l.length - 1 : Nat) : Int)).toNat = l.length - 1 := by omega
  have e4 : (0 : Int) ≤ ((l.length - 1 : Nat) : Int) := by omega
  have e5 : ((l.length - 1 : Nat) : Int) < (l.length : Int) := by omega
  clear hc h0 h1 hx hx47
  generalize l.length - 1 = m at *
  go_enter Tryz.func237, Tryz.ntmps237
  go_wp2
  go_ret
  exact ⟨rfl, Below.refl _ _⟩

set_option maxRecDepth 100000 in
set_option maxHeartbeats 4000000 in
theorem val237a (l : List UInt8) (h2 : ¬ 2 ≤ l.length) : ValN 237 l := by
  intro w g o cp _ _ _
  have e0 : decide ((l.length : Int) < 2) = true := by simp; omega
  go_enter Tryz.func237, Tryz.ntmps237
  go_wp2_with (go_at_call 52; (with_reducible refine (errorsNew _ _).mono ?_); rintro e w5 ⟨t, p, rfl, hb5⟩)
  go_ret
  exact ⟨t, p, rfl, hb5⟩

set_option maxRecDepth 100000 in
set_option maxHeartbeats 4000000 in
theorem val237b (l : List UInt8) (h2 : 2 ≤ l.length) (h0 : l.getD 0 0 ≠ 47) : ValN 237 l := by
  intro w g o cp _ _ hc
  obtain ⟨x, hx⟩ : ∃ x, x = l[0] := ⟨_, rfl⟩
  have c0 : w.cell? ⟨g, o, none⟩ = some (.int .u8 x.toNat) := by rw [hx]; exact hc 0 (by omega)
  have hx47 : x ≠ 47 := by
    intro e
    apply h0
    rw [← e, hx]
    simp [List.getD, show 0 < l.length by omega]
  have e0 : decide ((l.length : Int) < 2) = false := by simp; omega
  have e1 : ((x.toNat : Int) != 47) = true := by
    have : (x.toNat : Int) ≠ 47 := fun e => hx47 (UInt8.toNat_inj.1 (by simp; omega))
    simpa using this
  clear hc h0 hx hx47
  go_enter Tryz.func237, Tryz.ntmps237
  go_wp2_with (go_at_call 52; (with_reducible refine (errorsNew _ _).mono ?_); rintro e w5 ⟨t, p, rfl, hb5⟩)
  go_ret
  exact ⟨t, p, rfl, hb5⟩

set_option maxRecDepth 100000 in
set_option maxHeartbeats 4000000 in
theorem val237c (l : List UInt8) (h2 : 2 ≤ l.length) (h0 : l.getD 0 0 = 47) (h1 : l.getD (l.length - 1) 0 = 47) (hmax : l.length ≤ 1000000) : ValN 237 l := by
  intro w g o cp _ _ hc
  have c0 : w.cell? ⟨g, o, none⟩ = some (.int .u8 47) := by
    have := hc 0 (by omega)
    have e : l[0] = 47 := by simpa [List.getD, show 0 < l.length by omega] using h0
    rw [e] at this
    exact this
  have c1 : w.cell? ⟨g, o + (l.length - 1), none⟩ = some (.int .u8 47) := by
    have := hc (l.length - 1) (by omega)
    have e : l[l.length - 1] = 47 := by simpa [List.getD, show l.length - 1 < l.length by omega] using h1
    rw [e] at this
    exact this
  have e0 : decide ((l.length : Int) < 2) = false := by simp; omega
  have e2 : IntKind.i64.wrap ((l.length : Int) - 1) = ((l.length - 1 : Nat) : Int) := by rw [IntWalk.i64_in _ (by omega)]; omega
  have e3 : (((l.length - 1 : Nat) : Int)).toNat = l.length - 1 := by omega
  have e4 : (0 : Int) ≤ ((l.length - 1 : Nat) : Int) := by omega
  have e5 : ((l.length - 1 : Nat) : Int) < (l.length : Int) := by omega
  clear hc h0 h1
  generalize l.length - 1 = m at *
  go_enter Tryz.func237, Tryz.ntmps237
  go_wp2_with (go_at_call 52; (with_reducible refine (errorsNew _ _).mono ?_); rintro e w5 ⟨t, p, rfl, hb5⟩)
  go_ret
  exact ⟨t, p, rfl, hb5⟩
end Go.Proofs.YtnpcmmjdojdmnaaGreatDoor
namespace Go.Proofs.YtnpcmmjdojdmnaaGreatDoor
open Go Go.RowKit Go.Sort

theorem be2 (a b : UInt8) : Lib.beNat [a, b] = a.toNat * 256 + b.toNat := by simp [Lib.beNat, Lib.beFrom]
theorem be2_lt (a b : UInt8) : Lib.beNat [a, b] < 65536 := by
  have := a.toNat_lt; have := b.toNat_lt
  rw [be2]; omega

set_option maxRecDepth 100000 in
set_option maxHeartbeats 4000000 in
theorem bts202 (a b : UInt8) : BtsY 202 [a, b] := by
  intro w g o cp _ he hc
  have c0 : w.cell? ⟨g, o, none⟩ = some (.int .u8 a.toNat) := hc 0 (by simp)
  have c1 : w.cell? ⟨g, o + 1, none⟩ = some (.int .u8 b.toNat) := hc 1 (by simp)
  have HU := Lib.hid (Tryz.binary_BE_Uint16 g o 2 cp a b w (by decide) c0 c1)
  have hlt := be2_lt a b
  show Calls Tryz.prog 202 #[.slice (some ⟨g, o, none⟩) 2 cp] w _
  generalize hn : Lib.beNat [a, b] = n at *
  have HF : Hid (∀ w2, Below w.heap.size w w2 → Calls Tryz.prog 249 #[.int .u64 n, .int .i64 10] w2 fun e w' => ∃ s, e = .returned (.string s) ∧ Below w.heap.size w w') := Lib.hid fun w2 hb => by
    refine (fmtUintA n (by omega) w2 (he.up hb).tab).mono ?_
    rintro e w' ⟨s, rfl, hb2⟩
    exact ⟨s, rfl, hb.trans (hb2.mono hb.size)⟩
  have q1 : IntKind.u64.wrap (n : Int) = n := IntWalk.u64_in _ (by omega)
  clear c0 c1 hc hn he
  go_enter Tryz.func202, Tryz.ntmps202
  go_wp2_with (first
    | (go_at_call 248; (with_reducible refine HU.out.mono ?_); rintro e w2 ⟨rfl, hbe⟩)
    | (go_at_call 249; (with_reducible refine (HF.out _ hbe).mono ?_); rintro e w3 ⟨s, rfl, hb3⟩))
  go_ret2
  exact ⟨s, rfl, hb3⟩

theorem beFrom_lt : ∀ (l : List UInt8) (a : Nat), Lib.beFrom a l < (a + 1) * 256 ^ l.length
  | [], a => by simp [Lib.beFrom]
  | b :: r, a => by
    have hb := b.toNat_lt
    have IH := beFrom_lt r (a * 256 + b.toNat)
    rw [Lib.beFrom, List.length_cons, Nat.pow_succ, Nat.mul_comm (256 ^ r.length) 256, ← Nat.mul_assoc]
    exact Nat.lt_of_lt_of_le IH (Nat.mul_le_mul_right _ (by omega))
theorem be_lt (l : List UInt8) : Lib.beNat l < 256 ^ l.length := by
  have := beFrom_lt l 0
  rwa [Nat.zero_add, Nat.one_mul] at this
theorem be_lt8 (b0 b1 b2 b3 b4 b5 b6 b7 : UInt8) : Lib.beNat [b0, b1, b2, b3, b4, b5, b6, b7] < 18446744073709551616 := by
  have := be_lt [b0, b1, b2, b3, b4, b5, b6, b7]
  rw [show [b0, b1, b2, b3, b4, b5, b6, b7].length = 8 from rfl] at this
  exact Nat.lt_of_lt_of_le this (by decide)

set_option maxRecDepth 100000 in
set_option maxHeartbeats 4000000 in
theorem bts239 (b0 b1 b2 b3 b4 b5 b6 b7 : UInt8) : BtsY 239 [b0, b1, b2, b3, b4, b5, b6, b7] := by
  intro w g o cp _ he hc
  have HU := Lib.hid (Tryz.binary_BE_Uint64 g o 8 cp b0 b1 b2 b3 b4 b5 b6 b7 w (by decide) (hc 0 (by simp)) (hc 1 (by simp)) (hc 2 (by simp)) (hc 3 (by simp)) (hc 4 (by simp)) (hc 5 (by simp)) (hc 6 (by simp)) (hc 7 (by simp)))
  have hlt : Lib.beNat [b0, b1, b2, b3, b4, b5, b6, b7] < 18446744073709551616 := be_lt8 _ _ _ _ _ _ _ _
  show Calls Tryz.prog 239 #[.slice (some ⟨g, o, none⟩) 8 cp] w _
  generalize hn : Lib.beNat [b0, b1, b2, b3, b4, b5, b6, b7] = n at *
  have HF : Hid (∀ w2, Below w.heap.size w w2 → Calls Tryz.prog 249 #[.int .u64 n, .int .i64 10] w2 fun e w' => ∃ s, e = .returned (.string s) ∧ Below w.heap.size w w') := Lib.hid fun w2 hb => by
    refine (fmtUintA n (by omega) w2 (he.up hb).tab).mono ?_
    rintro e w' ⟨s, rfl, hb2⟩
    exact ⟨s, rfl, hb.trans (hb2.mono hb.size)⟩
  clear hc hn he
  go_enter Tryz.func239, Tryz.ntmps239
  go_wp2_with (first
    | (go_at_call 274; (with_reducible refine HU.out.mono ?_); rintro e w2 ⟨rfl, hbe⟩)
    | (go_at_call 249; (with_reducible refine (HF.out _ hbe).mono ?_); rintro e w3 ⟨s, rfl, hb3⟩))
  go_ret2
  exact ⟨s, rfl, hb3⟩

set_option maxRecDepth 100000 in
set_option maxHeartbeats 4000000 in
theorem val216Y (l : List UInt8) (hl : l.length = 12) (h : (l.getD 10 0 == 0 && l.getD 11 0 == 0) = false) : ValY 216 l := by
  intro w g o cp hcp _ hc
  obtain ⟨x, hx⟩ : ∃ x, x = l[10] := ⟨_, rfl⟩
  obtain ⟨y, hy⟩ : ∃ y, y = l[11] := ⟨_, rfl⟩
  have c0 : w.cell? ⟨g, o + 10, none⟩ = some (.int .u8 x.toNat) := by rw [hx]; exact hc 10 (by omega)
  have c1 : w.cell? ⟨g, o + 10 + 1, none⟩ = some (.int .u8 y.toNat) := by rw [hy]; exact hc 11 (by omega)
  have hgl := World.block_lt_of_cell? w _ c0
  have HU : Hid (∀ w2, Below w.heap.size w w2 → Calls Tryz.prog 248 #[.agg #[], .slice (some ⟨g, o + 10, none⟩) 2 (cp - 10)] w2 fun e w' => e = .returned (.int .u16 (Lib.beNat [x, y])) ∧ Below w.heap.size w w') := Lib.hid fun w2 hb => by
    refine (Tryz.binary_BE_Uint16 g (o + 10) 2 (cp - 10) x y w2 (by decide) ((hb.cell (p := ⟨g, o + 10, none⟩) hgl).trans c0) ((hb.cell (p := ⟨g, o + 10 + 1, none⟩) hgl).trans c1)).mono ?_
    rintro e w' ⟨rfl, hb2⟩
    exact ⟨rfl, hb.trans (hb2.mono hb.size)⟩
  have hz : (((Lib.beNat [x, y] : Nat) : Int) == 0) = false := by
    have hxx : l.getD 10 0 = x := by rw [hx]; simp [List.getD, hl]
    have hyy : l.getD 11 0 = y := by rw [hy]; simp [List.getD, hl]
    rw [hxx, hyy] at h
    rw [be2]
    have h : ¬ (x = 0 ∧ y = 0) := by simpa using h
    have hx0 : x.toNat = 0 → x = 0 := fun e => UInt8.toNat_inj.1 (by simpa using e)
    have hy0 : y.toNat = 0 → y = 0 := fun e => UInt8.toNat_inj.1 (by simpa using e)
    have : ((x.toNat * 256 + y.toNat : Nat) : Int) ≠ 0 := fun e => h ⟨hx0 (by omega), hy0 (by omega)⟩
    simpa using this
  rw [hl] at hcp ⊢
  have HUd : Hid (Calls Tryz.prog 248 #[.agg #[], .slice (some ⟨g, o + 10, none⟩) 2 (cp - 10)] w.drew fun e w' => e = .returned (.int .u16 (Lib.beNat [x, y])) ∧ Below w.heap.size w w') := Lib.hid (HU.out w.drew (Below.refl _ _).drew)
  generalize Lib.beNat [x, y] = n at *
  clear hc h hx hy c0 c1 HU
  go_enter Tryz.func216, Tryz.ntmps216
  go_wp2
  go_region_held (fun w' => Below w.heap.size w w')
    (first
      | with_reducible assumption
      | exact (Below.refl _ _).drew
      | exact hb2)
    ((go_at_call 248; (with_reducible refine HUd.out.mono ?_); rintro e w2 ⟨rfl, hb2⟩))
  all_goals
    go_wp2
    go_ret
    exact ⟨rfl, hb2⟩

set_option maxRecDepth 100000 in
set_option maxHeartbeats 4000000 in
theorem val216N (l : List UInt8) (hl : l.length = 12) (h : (l.getD 10 0 == 0 && l.getD 11 0 == 0) = true) : ValN 216 l := by
  intro w g o cp hcp _ hc
  obtain ⟨x, hx⟩ : ∃ x, x = l[10] := ⟨_, rfl⟩
  obtain ⟨y, hy⟩ : ∃ y, y = l[11] := ⟨_, rfl⟩
  have c0 : w.cell? ⟨g, o + 10, none⟩ = some (.int .u8 x.toNat) := by rw [hx]; exact hc 10 (by omega)
  have c1 : w.cell? ⟨g, o + 10 + 1, none⟩ = some (.int .u8 y.toNat) := by rw [hy]; exact hc 11 (by omega)
  have hgl := World.block_lt_of_cell? w _ c0
  have HU : Hid (∀ w2, Below w.heap.size w w2 → Calls Tryz.prog 248 #[.agg #[], .slice (some ⟨g, o + 10, none⟩) 2 (cp - 10)] w2 fun e w' => e = .returned (.int .u16 (Lib.beNat [x, y])) ∧ Below w.heap.size w w') := Lib.hid fun w2 hb => by
    refine (Tryz.binary_BE_Uint16 g (o + 10) 2 (cp - 10) x y w2 (by decide) ((hb.cell (p := ⟨g, o + 10, none⟩) hgl).trans c0) ((hb.cell (p := ⟨g, o + 10 + 1, none⟩) hgl).trans c1)).mono ?_
    rintro e w' ⟨rfl, hb2⟩
    exact ⟨rfl, hb.trans (hb2.mono hb.size)⟩
  have hz : (((Lib.beNat [x, y] : Nat) : Int) == 0) = true := by
    have hxx : l.getD 10 0 = x := by rw [hx]; simp [List.getD, hl]
    have hyy : l.getD 11 0 = y := by rw [hy]; simp [List.getD, hl]
    rw [hxx, hyy] at h
    rw [be2]
    have h : x = 0 ∧ y = 0 := by simpa using h
    rw [h.1, h.2]
    rfl
  rw [hl] at hcp ⊢
  have HUd : Hid (Calls Tryz.prog 248 #[.agg #[], .slice (some ⟨g, o + 10, none⟩) 2 (cp - 10)] w.drew fun e w' => e = .returned (.int .u16 (Lib.beNat [x, y])) ∧ Below w.heap.size w w') := Lib.hid (HU.out w.drew (Below.refl _ _).drew)
  generalize Lib.beNat [x, y] = n at *
  clear hc h hx hy c0 c1 HU
  go_enter Tryz.func216, Tryz.ntmps216
  go_wp2
  go_region_held (fun w' => Below w.heap.size w w')
    (first
      | with_reducible assumption
      | exact (Below.refl _ _).drew
      | exact hb2)
    ((go_at_call 248; (with_reducible refine HUd.out.mono ?_); rintro e w2 ⟨rfl, hb2⟩))
  all_goals
    go_wp2_with (go_at_call 52; (with_reducible refine (errorsNew _ _).mono ?_); rintro e w5 ⟨t, p, rfl, hb5⟩)
    go_ret
    exact ⟨t, p, rfl, hb2.trans (hb5.mono hb2.size)⟩

set_option maxRecDepth 100000 in
set_option maxHeartbeats 4000000 in
theorem val219Y (l : List UInt8) (hl : l.length = 37) (h : (l.getD 35 0 == 0 && l.getD 36 0 == 0) = false) : ValY 219 l := by
  intro w g o cp hcp _ hc
  obtain ⟨x, hx⟩ : ∃ x, x = l[35] := ⟨_, rfl⟩
  obtain ⟨y, hy⟩ : ∃ y, y = l[36] := ⟨_, rfl⟩
  have c0 : w.cell? ⟨g, o + 35, none⟩ = some (.int .u8 x.toNat) := by rw [hx]; exact hc 35 (by omega)
  have c1 : w.cell? ⟨g, o + 35 + 1, none⟩ = some (.int .u8 y.toNat) := by rw [hy]; exact hc 36 (by omega)
  have hgl := World.block_lt_of_cell? w _ c0
  have HU : Hid (∀ w2, Below w.heap.size w w2 → Calls Tryz.prog 248 #[.agg #[], .slice (some ⟨g, o + 35, none⟩) 2 (cp - 35)] w2 fun e w' => e = .returned (.int .u16 (Lib.beNat [x, y])) ∧ Below w.heap.size w w') := Lib.hid fun w2 hb => by
    refine (Tryz.binary_BE_Uint16 g (o + 35) 2 (cp - 35) x y w2 (by decide) ((hb.cell (p := ⟨g, o + 35, none⟩) hgl).trans c0) ((hb.cell (p := ⟨g, o + 35 + 1, none⟩) hgl).trans c1)).mono ?_
    rintro e w' ⟨rfl, hb2⟩
    exact ⟨rfl, hb.trans (hb2.mono hb.size)⟩
  have hz : (((Lib.beNat [x, y] : Nat) : Int) == 0) = false := by
    have hxx : l.getD 35 0 = x := by rw [hx]; simp [List.getD, hl]
    have hyy : l.getD 36 0 = y := by rw [hy]; simp [List.getD, hl]
    rw [hxx, hyy] at h
    rw [be2]
    have h : ¬ (x = 0 ∧ y = 0) := by simpa using h
    have hx0 : x.toNat = 0 → x = 0 := fun e => UInt8.toNat_inj.1 (by simpa using e)
    have hy0 : y.toNat = 0 → y = 0 := fun e => UInt8.toNat_inj.1 (by simpa using e)
    have : ((x.toNat * 256 + y.toNat : Nat) : Int) ≠ 0 := fun e => h ⟨hx0 (by omega), hy0 (by omega)⟩
    simpa using this
  rw [hl] at hcp ⊢
  have HUd : Hid (Calls Tryz.prog 248 #[.agg #[], .slice (some ⟨g, o + 35, none⟩) 2 (cp - 35)] w.drew fun e w' => e = .returned (.int .u16 (Lib.beNat [x, y])) ∧ Below w.heap.size w w') := Lib.hid (HU.out w.drew (Below.refl _ _).drew)
  generalize Lib.beNat [x, y] = n at *
  clear hc h hx hy c0 c1 HU
  go_enter Tryz.func219, Tryz.ntmps219
  go_wp2
  go_region_held (fun w' => Below w.heap.size w w')
    (first
      | with_reducible assumption
      | exact (Below.refl _ _).drew
      | exact hb2)
    ((go_at_call 248; (with_reducible refine HUd.out.mono ?_); rintro e w2 ⟨rfl, hb2⟩))
  all_goals
    go_wp2
    go_ret
    exact ⟨rfl, hb2⟩

set_option maxRecDepth 100000 in
set_option maxHeartbeats 4000000 in
theorem val219N (l : List UInt8) (hl : l.length = 37) (h : (l.getD 35 0 == 0 && l.getD 36 0 == 0) = true) : ValN 219 l := by
  intro w g o cp hcp _ hc
  obtain ⟨x, hx⟩ : ∃ x, x = l[35] := ⟨_, rfl⟩
  obtain ⟨y, hy⟩ : ∃ y, y = l[36] := ⟨_, rfl⟩
  have c0 : w.cell? ⟨g, o + 35, none⟩ = some (.int .u8 x.toNat) := by rw [hx]; exact hc 35 (by omega)
  have c1 : w.cell? ⟨g, o + 35 + 1, none⟩ = some (.int .u8 y.toNat) := by rw [hy]; exact hc 36 (by omega)
  have hgl := World.block_lt_of_cell? w _ c0
  have HU : Hid (∀ w2, Below w.heap.size w w2 → Calls Tryz.prog 248 #[.agg #[], .slice (some ⟨g, o + 35, none⟩) 2 (cp - 35)] w2 fun e w' => e = .returned (.int .u16 (Lib.beNat [x, y])) ∧ Below w.heap.size w w') := Lib.hid fun w2 hb => by
    refine (Tryz.binary_BE_Uint16 g (o + 35) 2 (cp - 35) x y w2 (by decide) ((hb.cell (p := ⟨g, o + 35, none⟩) hgl).trans c0) ((hb.cell (p := ⟨g, o + 35 + 1, none⟩) hgl).trans c1)).mono ?_
    rintro e w' ⟨rfl, hb2⟩
    exact ⟨rfl, hb.trans (hb2.mono hb.size)⟩
  have hz : (((Lib.beNat [x, y] : Nat) : Int) == 0) = true := by
    have hxx : l.getD 35 0 = x := by rw [hx]; simp [List.getD, hl]
    have hyy : l.getD 36 0 = y := by rw [hy]; simp [List.getD, hl]
    rw [hxx, hyy] at h
    rw [be2]
    have h : x = 0 ∧ y = 0 := by simpa using h
    rw [h.1, h.2]
    rfl
  rw [hl] at hcp ⊢
  have HUd : Hid (Calls Tryz.prog 248 #[.agg #[], .slice (some ⟨g, o + 35, none⟩) 2 (cp - 35)] w.drew fun e w' => e = .returned (.int .u16 (Lib.beNat [x, y])) ∧ Below w.heap.size w w') := Lib.hid (HU.out w.drew (Below.refl _ _).drew)
  generalize Lib.beNat [x, y] = n at *
  clear hc h hx hy c0 c1 HU
  go_enter Tryz.func219, Tryz.ntmps219
  go_wp2
  go_region_held (fun w' => Below w.heap.size w w')
    (first
      | with_reducible assumption
      | exact (Below.refl _ _).drew
      | exact hb2)
    ((go_at_call 248; (with_reducible refine HUd.out.mono ?_); rintro e w2 ⟨rfl, hb2⟩))
  all_goals
    go_wp2_with (go_at_call 52; (with_reducible refine (errorsNew _ _).mono ?_); rintro e w5 ⟨t, p, rfl, hb5⟩)
    go_ret
    exact ⟨t, p, rfl, hb2.trans (hb5.mono hb2.size)⟩
end Go.Proofs.YtnpcmmjdojdmnaaGreatDoor
namespace Go.Proofs.YtnpcmmjdojdmnaaGreatDoor
open Go Go.RowKit Go.Sort

set_option maxRecDepth 100000 in
set_option maxHeartbeats 4000000 in
theorem to4_mapped (g o cp : Nat) (l : List UInt8) (w : World) (hl : l.length = 16) (hcp : 16 ≤ cp) (h : At w g o l) (hm : mapped l = true) :
    Calls Tryz.prog 97 #[.slice (some ⟨g, o, none⟩) 16 cp] w fun e w' => ∃ c2, e = .returned (.slice (some ⟨g, o + 12, none⟩) 4 c2) ∧ w = w' := by
  have c0 : w.cell? ⟨g, o + 10, none⟩ = some (.int .u8 l[10].toNat) := h 10 (by omega)
  have c1 : w.cell? ⟨g, o + 11, none⟩ = some (.int .u8 l[11].toNat) := h 11 (by omega)
  have hm' : ((l.take 10).all (fun x => x.toNat == 0) && (l[10].toNat == 255) && (l[11].toNat == 255)) = true := by
    have := hm
    rw [mapped, List.getElem?_eq_getElem (by omega : 10 < l.length), List.getElem?_eq_getElem (by omega : 11 < l.length)] at this
    simpa using this
  simp only [Bool.and_eq_true, beq_iff_eq] at hm'
  obtain ⟨⟨hz, hx⟩, hy⟩ := hm'
  have hZ : ∀ c, Calls Tryz.prog 158 #[.slice (some ⟨g, o, none⟩) 10 c] w fun e w' => e = .returned (.bool true) ∧ w = w' := fun c => by
    have h10 : (l.take 10).length = 10 := by simp; omega
    have := isZeros g o c (l.take 10) w (by omega) (fun j hj => by rw [h j (by omega), List.getElem_take])
    rwa [h10, hz] at this
  rw [hx] at c0
  rw [hy] at c1
  have HZ := Lib.hid hZ; clear hZ h hm hx hy hz
  go_enter Tryz.func97, Tryz.ntmps97
  go_wp2_with (go_at_call 158; with_reducible refine (HZ.out _).mono ?_; rintro e w2 ⟨rfl, rfl⟩)
  go_ret
  exact ⟨_, rfl, rfl⟩

theorem quadT_size (a b c d : UInt8) : (⟨(quadT a.toNat b.toNat c.toNat d.toNat).toArray⟩ : ByteArray).size ≤ 100 := by
  show (quadT _ _ _ _).toArray.size ≤ 100
  have h1 := digits3 a.toNat a.toNat_lt
  have h2 := digits3 b.toNat b.toNat_lt
  have h3 := digits3 c.toNat c.toNat_lt
  have h4 := digits3 d.toNat d.toNat_lt
  rw [List.size_toArray, quadT]
  simp
  omega

set_option maxRecDepth 100000 in
set_option maxHeartbeats 4000000 in
theorem ip6BtSm (l : List UInt8) (hl : l.length = 16) (hm : mapped l = true) (g o cp : Nat) (hcp : 16 ≤ cp) (w : World) (ht : Tab w) (h : At w g o l) :
    Calls Tryz.prog 207 #[.slice (some ⟨g, o, none⟩) 16 cp] w fun e w' => ∃ s, e = .returned (.tuple #[.string s, .nilIface]) ∧ Below w.heap.size w w' := by
  have H4 := Lib.hid (to4_mapped g o cp l w hl hcp h hm)
  have hat : At w g (o + 12) [l[12], l[13], l[14], l[15]] := fun j hj => by
    have hj4 : j < 4 := hj
    have := h (12 + j) (by omega)
    rw [show o + (12 + j) = o + 12 + j by omega] at this
    rw [this]
    match j, hj4 with
    | 0, _ => rfl
    | 1, _ => rfl
    | 2, _ => rfl
    | 3, _ => rfl
  have HP : Hid (∀ c2, Calls Tryz.prog 99 #[.slice (some ⟨g, o + 12, none⟩) 4 c2] w fun e w' => ∃ s, e = .returned (.string s) ∧ s.size ≤ 100 ∧ Below w.heap.size w w') := Lib.hid fun c2 => by
    refine (ipString4' l[12] l[13] l[14] l[15] g (o + 12) c2 w ht hat).mono ?_
    rintro e w' ⟨rfl, hb⟩
    exact ⟨_, rfl, quadT_size _ _ _ _, hb⟩
  have hnil : ∀ (w : World) (g : Nat) (c2 : Nat), (binOp .neq 76 (.slice (some ⟨g, o + 12, none⟩) 4 c2) (.slice none 0 0)).run Tryz.prog w = .ok (.bool true) w := fun w g c2 => by
    simp [binOp, run_equal_slice_nil w 76 5 (some ⟨g, o + 12, none⟩) 4 c2 Tryz.underlying76, Result.andThen]
  clear h hm hat
  go_enter Tryz.func207, Tryz.ntmps207
  go_wp2_with (first
    | (go_at_call 97; (with_reducible refine H4.out.mono ?_); rintro e w2 ⟨c2, rfl, rfl⟩)
    | (go_at_call 99; (with_reducible refine (HP.out _).mono ?_); rintro e w2 ⟨s, rfl, hsz, hbe⟩; have hcat : ((⟨#[58, 58, 102, 102, 102, 102, 58]⟩ : ByteArray).size : Int) + (s.size : Int) ≤ 9223372036854775807 := (by show (7 : Int) + _ ≤ _; omega)))
  go_ret2
  exact ⟨_, rfl, hbe⟩

theorem bts207 (l : List UInt8) (hl : l.length = 16) : BtsY 207 l := by
  intro w g o cp hcp he hc
  rw [hl] at hcp ⊢
  cases hm : mapped l with
  | true => exact ip6BtSm l hl hm g o cp hcp w he.tab hc
  | false => exact ip6BtS l hl hm g o cp hcp w hc

theorem bts200 (l : List UInt8) (hl : l.length = 4) : BtsY 200 l := by
  intro w g o cp hcp he hc
  match l, hl with
  | [a, b, c, d], _ => exact ip4BtST a b c d g o cp w he.tab hc
end Go.Proofs.YtnpcmmjdojdmnaaGreatDoor
