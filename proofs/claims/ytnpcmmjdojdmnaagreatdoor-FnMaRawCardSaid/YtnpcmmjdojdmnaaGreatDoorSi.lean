/- FormatUint (282, 249) at base 10: a text, for every uint64. Simple transcoders: texts, lengths, one byte, a path; bytes.IndexByte. Names without a slash; paths; ports; memory addresses: BytesToString, ValidateBytes. Ports, memory addresses, onion addresses' checks. The transcoders of IP addresses: BytesToString at any bytes. Multihashes: uvarint (396), readMultihashFromBuf (367). Multihashes: decode (308), Decode (262), Cast (271); ValidateBytes of p2p (234) and certhash (228). -/
import Derived.Test.YtnpcmmjdojdmnaaGreatDoorSh
import Derived.Lib.ItoaMem
import Derived.BigCall
import Derived.BigGuard
import Derived.Test.YtnpcmmjdojdmnaaGreatDoorSe
import Derived.Lib.BytesEntry
import Derived.Lib.IndexAny
import Derived.Test.YtnpcmmjdojdmnaaGreatDoorSa
namespace Go.Proofs.YtnpcmmjdojdmnaaGreatDoor
open Go Go.RowKit Go.Sort

theorem holds_zero0 (w : World) (T : TypeId) (nd : Nat) (hs : nd ≤ 24) : Holds (fun (b : UInt8) => Value.int .u8 (b.toNat : Int)) (w.alloc (.cells Lib.zeros24 T)) w.heap.size 0 (Array.replicate nd (0 : UInt8)) := fun j hj => by
  have hj' : j < nd := by simpa using hj
  refine ⟨?_, World.frozen?_alloc_new _ _ _ _⟩
  rw [World.cell?_alloc_new, Lib.zeros24_at _ (by omega), getElem!_pos _ j hj]
  simp

theorem fin_pos0 (w : World) (o : Obj) (dk : Array UInt8) (k : Nat) : ∃ os, (putRow (fun (b : UInt8) => Value.int .u8 (b.toNat : Int)) (w.alloc o) w.heap.size 0 dk).drewN k = grow (w.drewN k) os := by
  rw [alloc_eq_grow]
  obtain ⟨os', _, e⟩ := putRow_grow_new (fun (b : UInt8) => Value.int .u8 (b.toNat : Int)) w #[o] w.heap.size 0 dk (Nat.le_refl _)
  exact ⟨os', by rw [e]; rfl⟩

set_option maxRecDepth 100000 in
set_option maxHeartbeats 8000000 in
theorem fmtUint_big (u : Nat) (h100 : 100 ≤ u) (hu64 : u < 18446744073709551616) (w : World) (ht : Tab w) : Calls Tryz.prog 282 #[.int .u64 u, .int .i64 10] w fun e w' => ∃ s, e = .returned (.string s) ∧ Below w.heap.size w w' := by
  have htab : Lib.TabIs Tryz.prog w "internal/strconv.uint64pow10" .u64 Lib.pow10Tab := ht
  have hu1 : 1 ≤ u := by omega
  have hnd20 : Lib.nDigits u ≤ 20 := by have := Lib.numDigits_eq u hu1 hu64; split at this <;> omega
  have hb3 : Lib.nDigits u ≤ 24 := by omega
  have hal : Tryz.prog.arrayLen 216 = 24 := by simp [Program.arrayLen, Tryz.underlying216]
  have hsl1 : ∀ W, (Instr.sliceAt 216 (.pointer (some ⟨w.heap.size, 0, none⟩)) none (some (.int .i64 (Lib.nDigits u : Int))) none).run Tryz.prog W = .ok (.slice (some ⟨w.heap.size, 0, none⟩) (Lib.nDigits u) 24) W := fun W => by
    rw [run_sliceAt_array_h W 216 ⟨w.heap.size, 0, none⟩ (by simp [Program.arrayLen, Program.elem, Tryz.underlying216]) .i64 (Lib.nDigits u : Int) (by omega) (by rw [hal]; omega)]
    go_simp
  have hH0 := holds_zero0 w 216 (Lib.nDigits u) (by omega)
  have hfmt := Tryz.internal_strconv_formatBase10 w.heap.size 0 24 u (Array.replicate (Lib.nDigits u) 0) (w.alloc (.cells Lib.zeros24 216)) hH0 (by rw [Array.size_replicate]; exact Lib.lt_pow_nDigits u) hu64 (by rw [Array.size_replicate]; omega)
  rw [Array.size_replicate] at hfmt
  have HH0 := Lib.hid hH0
  have HF := Lib.hid hfmt
  have e1 : decide ((u : Int) < 100) = false := by simp; omega
  clear hH0 hal hfmt ht
  go_enter Tryz.func282, Tryz.ntmps282
  go_wp2_with (first
    | (go_at_call 276; refine (Tryz.internal_strconv_numDigits u hu1 hu64 _ (Lib.tabIs_alloc htab _)).mono ?_; rintro e w' ⟨rfl, rfl⟩)
    | (go_at_call 277; refine HF.out.mono ?_; rintro e w' ⟨rfl, k, v', dk, rfl, hF⟩; refine Hid.out ?_))
  refine Lib.hid ?_
  have hcv : (convert 22 9 (.slice (some ⟨w.heap.size, 0, none⟩) (Lib.nDigits u) 24)).run Tryz.prog ((putRow (fun (b : UInt8) => Value.int .u8 (b.toNat : Int)) (w.alloc (.cells Lib.zeros24 216)) w.heap.size 0 dk).drewN k) = .ok (.string ⟨(Lib.decDigits u).toArray⟩) ((putRow (fun (b : UInt8) => Value.int .u8 (b.toNat : Int)) (w.alloc (.cells Lib.zeros24 216)) w.heap.size 0 dk).drewN k) := by
    have h := run_convert_bytes_back (P := Tryz.prog) ((putRow (fun (b : UInt8) => Value.int .u8 (b.toNat : Int)) (w.alloc (.cells Lib.zeros24 216)) w.heap.size 0 dk).drewN k) 22 9 5 ⟨w.heap.size, 0, none⟩ 24 (Lib.decDigits u) Tryz.underlying22 Tryz.underlying5 Tryz.underlying9 (fun j hj => by
      rw [Lib.row_is_numeral hF j hj, Lib.add_plain, World.cell?_drewN]
      exact cell?_putRow (fun (b : UInt8) => Value.int .u8 (b.toNat : Int)) _ w.heap.size 0 _ dk HH0.out (by rw [hF.size, Array.size_replicate]) j (by rw [hF.size]; rw [Lib.decDigits_length] at hj; exact hj))
    rw [Lib.decDigits_length] at h
    exact h
  go_wp2
  go_ret
  obtain ⟨os, eo⟩ := fin_pos0 w (.cells Lib.zeros24 216) dk k
  exact ⟨_, rfl, by rw [eo]; exact below_grow (below_drewN (Below.refl _ _) _) (Nat.le_refl _) os⟩

set_option maxRecDepth 100000 in
set_option maxHeartbeats 4000000 in
theorem fmtUintA (u : Nat) (hu64 : u < 18446744073709551616) (w : World) (ht : Tab w) : Calls Tryz.prog 249 #[.int .u64 u, .int .i64 10] w fun e w' => ∃ s, e = .returned (.string s) ∧ Below w.heap.size w w' := by
  by_cases h100 : u < 100
  · refine (fmtUint u h100 w).mono ?_
    rintro e w' ⟨s, rfl, rfl⟩
    exact ⟨s, rfl, Below.refl _ _⟩
  · have HI := Lib.hid (fmtUint_big u (by omega) hu64 w ht)
    clear ht h100
    go_enter Tryz.func249, Tryz.ntmps249
    go_wp2_with (go_at_call 282; (with_reducible refine HI.out.mono ?_); rintro e w2 ⟨s, rfl, hb⟩)
    go_ret
    exact ⟨s, rfl, hb⟩
end Go.Proofs.YtnpcmmjdojdmnaaGreatDoor
namespace Go.Proofs.YtnpcmmjdojdmnaaGreatDoor
open Go Go.RowKit Go.Sort

theorem len_ne0 {l : List UInt8} (hl : 0 < l.length) : ((l.length : Int) == 0) = false := by
  have : (l.length : Int) ≠ 0 := by omega
  simpa using this

set_option maxRecDepth 100000 in
set_option maxHeartbeats 4000000 in
theorem bts204 (l : List UInt8) : BtsY 204 l := by
  intro w g o cp _ _ hc
  have hcv := convert_bytes hc.bytes cp
  clear hc
  go_enter Tryz.func204, Tryz.ntmps204
  go_wp2
  go_ret2
  exact ⟨_, rfl, Below.refl _ _⟩

set_option maxRecDepth 100000 in
set_option maxHeartbeats 4000000 in
theorem bts236 (l : List UInt8) : BtsY 236 l := by
  intro w g o cp _ _ hc
  have hcv := convert_bytes hc.bytes cp
  clear hc
  go_enter Tryz.func236, Tryz.ntmps236
  go_wp2
  go_ret2
  exact ⟨_, rfl, Below.refl _ _⟩

set_option maxRecDepth 100000 in
set_option maxHeartbeats 4000000 in
theorem bts209 (l : List UInt8) (hl : 0 < l.length) : BtsY 209 l := by
  intro w g o cp _ _ hc
  have hcv := convert_bytes hc.bytes cp
  have e0 := len_ne0 hl
  clear hc
  go_enter Tryz.func209, Tryz.ntmps209
  go_wp2
  go_ret2
  exact ⟨_, rfl, Below.refl _ _⟩

set_option maxRecDepth 100000 in
set_option maxHeartbeats 4000000 in
theorem val213 (x : UInt8) : ValY 213 [x] := by
  intro w g o cp _ _ _
  show Calls Tryz.prog 213 #[.slice (some ⟨g, o, none⟩) 1 cp] w _
  go_enter Tryz.func213, Tryz.ntmps213
  go_wp2
  go_ret
  exact ⟨rfl, Below.refl _ _⟩

set_option maxRecDepth 100000 in
set_option maxHeartbeats 4000000 in
theorem bts212 (x : UInt8) : BtsY 212 [x] := by
  intro w g o cp hcp he hc
  have H213 := Lib.hid (val213 x w g o cp hcp he hc)
  have c0 : w.cell? ⟨g, o, none⟩ = some (.int .u8 x.toNat) := hc 0 (by simp)
  have hx := x.toNat_lt
  have hgl := World.block_lt_of_cell? w _ c0
  have HI : Hid (∀ w2, Below w.heap.size w w2 → Calls Tryz.prog 161 #[.int .i64 x.toNat] w2 fun e w' => ∃ s, e = .returned (.string s) ∧ Below w.heap.size w w') := Lib.hid fun w2 hb => by
    refine (Tryz.strconv_Itoa (x.toNat : Int) (by omega) (by omega) w2 (he.up hb).tab).mono ?_
    rintro e w' ⟨rfl, k, os, rfl⟩
    exact ⟨_, rfl, hb.trans (below_grow (below_drewN ((Below.refl _ _).mono hb.size) _) (by simpa using hb.size) os)⟩
  have HC : Hid (∀ w2, Below w.heap.size w w2 → w2.cell? ⟨g, o, none⟩ = some (.int .u8 x.toNat)) := Lib.hid fun w2 hb => (hb.cell (p := ⟨g, o, none⟩) hgl).trans c0
  have e1 : IntKind.i64.wrap (x.toNat : Int) = x.toNat := IntWalk.i64_in _ (by omega)
  show Calls Tryz.prog 212 #[.slice (some ⟨g, o, none⟩) 1 cp] w _
  have H213' : Hid (Calls Tryz.prog 213 #[.slice (some ⟨g, o, none⟩) 1 cp] w fun e w' => e = .returned .nilIface ∧ Below w.heap.size w w') := H213
  clear hc he c0 H213
  go_enter Tryz.func212, Tryz.ntmps212
  go_wp2_with (first
    | (go_at_call 213; (with_reducible refine H213'.out.mono ?_); rintro e w2 ⟨rfl, hb⟩; have c0 := HC.out w2 hb)
    | (go_at_call 161; (with_reducible refine (HI.out w2 hb).mono ?_); rintro e w3 ⟨s, rfl, hb3⟩))
  go_ret2
  exact ⟨_, rfl, hb3⟩

set_option maxRecDepth 100000 in
set_option maxHeartbeats 4000000 in
theorem val231 (l : List UInt8) (hl : 0 < l.length) : ValY 231 l := by
  intro w g o cp _ _ _
  have e0 := len_ne0 hl
  go_enter Tryz.func231, Tryz.ntmps231
  go_wp2
  go_ret
  exact ⟨rfl, Below.refl _ _⟩

set_option maxRecDepth 100000 in
set_option maxHeartbeats 4000000 in
theorem val240 (l : List UInt8) (hl : l.length = 8) : ValY 240 l := by
  intro w g o cp _ _ _
  rw [hl]
  go_enter Tryz.func240, Tryz.ntmps240
  go_wp2
  go_ret
  exact ⟨rfl, Below.refl _ _⟩

set_option maxRecDepth 100000 in
set_option maxHeartbeats 4000000 in
theorem val222Y (l : List UInt8) (hl : 386 ≤ l.length) : ValY 222 l := by
  intro w g o cp _ _ _
  have e0 : decide ((l.length : Int) < 386) = false := by simp; omega
  go_enter Tryz.func222, Tryz.ntmps222
  go_wp2
  go_ret
  exact ⟨rfl, Below.refl _ _⟩
set_option maxRecDepth 100000 in
set_option maxHeartbeats 4000000 in
theorem val222N (l : List UInt8) (hl : ¬ 386 ≤ l.length) : ValN 222 l := by
  intro w g o cp _ _ _
  have e0 : decide ((l.length : Int) < 386) = true := by simp; omega
  go_enter Tryz.func222, Tryz.ntmps222
  go_wp2_with (go_at_call 52; (with_reducible refine (errorsNew _ _).mono ?_); rintro e w5 ⟨t, p, rfl, hb5⟩)
  go_ret
  exact ⟨t, p, rfl, hb5⟩

set_option maxRecDepth 100000 in
set_option maxHeartbeats 4000000 in
theorem val225Y (l : List UInt8) (hl : 35 ≤ l.length ∨ l.length = 32) : ValY 225 l := by
  intro w g o cp _ _ _
  rcases hl with hl | hl
  · have e0 : decide ((l.length : Int) < 35) = false := by simp; omega
    go_enter Tryz.func225, Tryz.ntmps225
    go_wp2
    go_ret
    exact ⟨rfl, Below.refl _ _⟩
  · rw [hl]
    go_enter Tryz.func225, Tryz.ntmps225
    go_wp2
    go_ret
    exact ⟨rfl, Below.refl _ _⟩
set_option maxRecDepth 100000 in
set_option maxHeartbeats 4000000 in
theorem val225N (l : List UInt8) (hl : ¬ (35 ≤ l.length ∨ l.length = 32)) : ValN 225 l := by
  intro w g o cp _ _ _
  have e0 : decide ((l.length : Int) < 35) = true := by simp; omega
  have e1 : ((l.length : Int) != 32) = true := by
    have : (l.length : Int) ≠ 32 := by omega
    simpa using this
  go_enter Tryz.func225, Tryz.ntmps225
  go_wp2_with (go_at_call 52; (with_reducible refine (errorsNew _ _).mono ?_); rintro e w5 ⟨t, p, rfl, hb5⟩)
  go_ret
  exact ⟨t, p, rfl, hb5⟩

set_option maxRecDepth 100000 in
set_option maxHeartbeats 4000000 in
theorem indexByte47 (l : List UInt8) (g o cp : Nat) (w : World) (hc : At w g o l) :
    Calls Tryz.prog 250 #[.slice (some ⟨g, o, none⟩) l.length cp, .int .u8 47] w fun e w' => e = .returned (.int .i64 (Lib.indexByte l 47)) ∧ w' = w := by
  have hx : (l.map fun b => (b.toNat : Int)).length = l.length := by simp
  have hcc : ∀ i, i < l.length → w.cell? ⟨g, o + i, none⟩ = some (.int .u8 ((l.map fun b => (b.toNat : Int)).getD i 0)) := fun i hi => by
    rw [hc i hi]
    simp [List.getD, hi]
  have hE : Lib.bytesOf (l.map fun b => (b.toNat : Int)) = l := by
    rw [Lib.bytesOf, List.map_map]
    conv => rhs; rw [← List.map_id l]
    refine List.map_congr_left fun b _ => ?_
    simp
  go_enter Tryz.func250, Tryz.ntmps250
  go_wp2
  rw [run_callFunc_extern Tryz.func283 (by kernel_rfl) (by kernel_rfl) (by kernel_rfl) (e := Extern.BytealgIndexByte.indexByte) (by kernel_rfl), Lib.run_indexByteSlice w g o l.length cp _ hx hcc 47]
  simp only [Result.andThen]
  rw [Oper.upon_value]
  go_wp2
  go_ret
  exact ⟨rfl, rfl⟩
end Go.Proofs.YtnpcmmjdojdmnaaGreatDoor
namespace Go.Proofs.YtnpcmmjdojdmnaaGreatDoor
open Go Go.RowKit Go.Sort

theorem idx_yes {l : List UInt8} (h : l.contains 47 = true) : decide (0 ≤ Lib.indexByte l 47) = true := by rw [← Lib.contains_iff_indexByte]; exact h
theorem idx_no {l : List UInt8} (h : l.contains 47 = false) : decide (0 ≤ Lib.indexByte l 47) = false := by rw [← Lib.contains_iff_indexByte]; exact h

set_option maxRecDepth 100000 in
set_option maxHeartbeats 4000000 in
theorem val205Y (l : List UInt8) (hl : 0 < l.length) (h : l.contains 47 = false) : ValY 205 l := by
  intro w g o cp _ _ hc
  have HI := Lib.hid (indexByte47 l g o cp w hc)
  have e0 := len_ne0 hl
  have e1 := idx_no h
  clear hc h
  go_enter Tryz.func205, Tryz.ntmps205
  go_wp2_with (go_at_call 250; (with_reducible refine HI.out.mono ?_); rintro e w2 ⟨rfl, rfl⟩)
  go_ret
  exact ⟨rfl, Below.refl _ _⟩
set_option maxRecDepth 100000 in
set_option maxHeartbeats 4000000 in
theorem val205N (l : List UInt8) (hl : 0 < l.length) (h : l.contains 47 = true) : ValN 205 l := by
  intro w g o cp _ _ hc
  have HI := Lib.hid (indexByte47 l g o cp w hc)
  have e0 := len_ne0 hl
  have e1 := idx_yes h
  clear hc h
  go_enter Tryz.func205, Tryz.ntmps205
  go_wp2_with (first
    | (go_at_call 250; (with_reducible refine HI.out.mono ?_); rintro e w2 ⟨rfl, rfl⟩)
    | (go_at_call 52; (with_reducible refine (errorsNew _ _).mono ?_); rintro e w5 ⟨t, p, rfl, hb5⟩))
  go_ret
  exact ⟨t, p, rfl, hb5⟩

set_option maxRecDepth 100000 in
set_option maxHeartbeats 4000000 in
theorem val210Y (l : List UInt8) (hl : 0 < l.length) (h : l.contains 47 = false) : ValY 210 l := by
  intro w g o cp _ _ hc
  have HI := Lib.hid (indexByte47 l g o cp w hc)
  have e0 := len_ne0 hl
  have e1 := idx_no h
  clear hc h
  go_enter Tryz.func210, Tryz.ntmps210
  go_wp2_with (go_at_call 250; (with_reducible refine HI.out.mono ?_); rintro e w2 ⟨rfl, rfl⟩)
  go_ret
  exact ⟨rfl, Below.refl _ _⟩
set_option maxRecDepth 100000 in
set_option maxHeartbeats 4000000 in
theorem val210N (l : List UInt8) (hl : 0 < l.length) (h : l.contains 47 = true) : ValN 210 l := by
  intro w g o cp _ _ hc
  have HI := Lib.hid (indexByte47 l g o cp w hc)
  have e0 := len_ne0 hl
  have e1 := idx_yes h
  clear hc h
  go_enter Tryz.func210, Tryz.ntmps210
  go_wp2_with (first
    | (go_at_call 250; (with_reducible refine HI.out.mono ?_); rintro e w2 ⟨rfl, rfl⟩)
    | (go_at_call 52; (with_reducible refine (errorsNew _ _).mono ?_); rintro e w5 ⟨t, p, rfl, hb5⟩))
  go_ret
  exact ⟨t, p, rfl, hb5⟩
set_option maxRecDepth 100000 in
set_option maxHeartbeats 4000000 in
theorem val237Y (l : List UInt8) (h2 : 2 ≤ l.length) (h0 : l.getD 0 0 = 47) (h1 : l.getD (l.length - 1) 0 ≠ 47) (hmax : l.length ≤ 1000000) : ValY 237 l := by
  intro w g o cp _ _ hc
  have c0 : w.cell? ⟨g, o, none⟩ = some (.int .u8 47) := by
    have := hc 0 (by omega)
    have e : l[0] = 47 := by simpa [List.getD, show 0 < l.length by omega] using h0
    rw [e] at this
    exact this
  obtain ⟨x, hx⟩ : ∃ x, x = l[l.length - 1] := ⟨_, rfl⟩
  have c1 : w.cell? ⟨g, o + (l.length - 1), none⟩ = some (.int .u8 x.toNat) := by rw [hx]; exact hc (l.length - 1) (by omega)
  have hx47 : x ≠ 47 := by
    intro e
    apply h1
    rw [← e, hx]
    simp [List.getD, show l.length - 1 < l.length by omega]
  have e0 : decide ((l.length : Int) < 2) = false := by simp; omega
  have e1 : ((x.toNat : Int) == 47) = false := by
    have : (x.toNat : Int) ≠ 47 := fun e => hx47 (UInt8.toNat_inj.1 (by simp; omega))
    simpa using this
  have e2 : IntKind.i64.wrap ((l.length : Int) - 1) = ((l.length - 1 : Nat) : Int) := by rw [IntWalk.i64_in _ (by omega)]; omega
  have e3 : (((l.length - 1 : Nat) : Int)).toNat = l.length - 1 := by omega
  have e4 : (0 : Int) ≤ ((l.length - 1 : Nat) : Int) := by omega
  have e5 : ((l.length - 1 : Nat) : Int) < (l.length : Int) := by omega
  clear hc h0 h1 hx hx47
  generalize l.length - 1 = m at *
  go_enter Tryz.func237, Tryz.ntmps237
  go_wp2
  go_ret
  exact ⟨rfl, Below.refl _ _⟩

set_option maxRecDepth 100000 in
set_option maxHeartbeats 4000000 in
theorem val237a (l : List UInt8) (h2 : ¬ 2 ≤ l.length) : ValN 237 l := by
  intro w g o cp _ _ _
  have e0 : decide ((l.length : Int) < 2) = true := by simp; omega
  go_enter Tryz.func237, Tryz.ntmps237
  go_wp2_with (go_at_call 52; (with_reducible refine (errorsNew _ _).mono ?_); rintro e w5 ⟨t, p, rfl, hb5⟩)
  go_ret
  exact ⟨t, p, rfl, hb5⟩

set_option maxRecDepth 100000 in
set_option maxHeartbeats 4000000 in
theorem val237b (l : List UInt8) (h2 : 2 ≤ l.length) (h0 : l.getD 0 0 ≠ 47) : ValN 237 l := by
  intro w g o cp _ _ hc
  obtain ⟨x, hx⟩ : ∃ x, x = l[0] := ⟨_, rfl⟩
  have c0 : w.cell? ⟨g, o, none⟩ = some (.int .u8 x.toNat) := by rw [hx]; exact hc 0 (by omega)
  have hx47 : x ≠ 47 := by
    intro e
    apply h0
    rw [← e, hx]
    simp [List.getD, show 0 < l.length by omega]
  have e0 : decide ((l.length : Int) < 2) = false := by simp; omega
  have e1 : ((x.toNat : Int) != 47) = true := by
    have : (x.toNat : Int) ≠ 47 := fun e => hx47 (UInt8.toNat_inj.1 (by simp; omega))
    simpa using this
  clear hc h0 hx hx47
  go_enter Tryz.func237, Tryz.ntmps237
  go_wp2_with (go_at_call 52; (with_reducible refine (errorsNew _ _).mono ?_); rintro e w5 ⟨t, p, rfl, hb5⟩)
  go_ret
  exact ⟨t, p, rfl, hb5⟩

set_option maxRecDepth 100000 in
set_option maxHeartbeats 4000000 in
theorem val237c (l : List UInt8) (h2 : 2 ≤ l.length) (h0 : l.getD 0 0 = 47) (h1 : l.getD (l.length - 1) 0 = 47) (hmax : l.length ≤ 1000000) : ValN 237 l := by
  intro w g o cp _ _ hc
  have c0 : w.cell? ⟨g, o, none⟩ = some (.int .u8 47) := by
    have := hc 0 (by omega)
    have e : l[0] = 47 := by simpa [List.getD, show 0 < l.length by omega] using h0
    rw [e] at this
    exact this
  have c1 : w.cell? ⟨g, o + (l.length - 1), none⟩ = some (.int .u8 47) := by
    have := hc (l.length - 1) (by omega)
    have e : l[l.length - 1] = 47 := by simpa [List.getD, show l.length - 1 < l.length by omega] using h1
    rw [e] at this
    exact this
  have e0 : decide ((l.length : Int) < 2) = false := by simp; omega
  have e2 : IntKind.i64.wrap ((l.length : Int) - 1) = ((l.length - 1 : Nat) : Int) := by rw [IntWalk.i64_in _ (by omega)]; omega
  have e3 : (((l.length - 1 : Nat) : Int)).toNat = l.length - 1 := by omega
  have e4 : (0 : Int) ≤ ((l.length - 1 : Nat) : Int) := by omega
  have e5 : ((l.length - 1 : Nat) : Int) < (l.length : Int) := by omega
  clear hc h0 h1
  generalize l.length - 1 = m at *
  go_enter Tryz.func237, Tryz.ntmps237
  go_wp2_with (go_at_call 52; (with_reducible refine (errorsNew _ _).mono ?_); rintro e w5 ⟨t, p, rfl, hb5⟩)
  go_ret
  exact ⟨t, p, rfl, hb5⟩
end Go.Proofs.YtnpcmmjdojdmnaaGreatDoor
namespace Go.Proofs.YtnpcmmjdojdmnaaGreatDoor
open Go Go.RowKit Go.Sort

theorem be2 (a b : UInt8) : Lib.beNat [a, b] = a.toNat * 256 + b.toNat := by simp [Lib.beNat, Lib.beFrom]
theorem be2_lt (a b : UInt8) : Lib.beNat [a, b] < 65536 := by
  have := a.toNat_lt; have := b.toNat_lt
  rw [be2]; omega

set_option maxRecDepth 100000 in
set_option maxHeartbeats 4000000 in
theorem bts202 (a b : UInt8) : BtsY 202 [a, b] := by
  intro w g o cp _ he hc
  have c0 : w.cell? ⟨g, o, none⟩ = some (.int .u8 a.toNat) := hc 0 (by simp)
  have c1 : w.cell? ⟨g, o + 1, none⟩ = some (.int .u8 b.toNat) := hc 1 (by simp)
  have HU := Lib.hid (Tryz.binary_BE_Uint16 g o 2 cp a b w (by decide) c0 c1)
  have hlt := be2_lt a b
  show Calls Tryz.prog 202 #[.slice (some ⟨g, o, none⟩) 2 cp] w _
  generalize hn : Lib.beNat [a, b] = n at *
  have HF : Hid (∀ w2, Below w.heap.size w w2 → Calls Tryz.prog 249 #[.int .u64 n, .int .i64 10] w2 fun e w' => ∃ s, e = .returned (.string s) ∧ Below w.heap.size w w') := Lib.hid fun w2 hb => by
    refine (fmtUintA n (by omega) w2 (he.up hb).tab).mono ?_
    rintro e w' ⟨s, rfl, hb2⟩
    exact ⟨s, rfl, hb.trans (hb2.mono hb.size)⟩
  have q1 : IntKind.u64.wrap (n : Int) = n := IntWalk.u64_in _ (by omega)
  clear c0 c1 hc hn he
  go_enter Tryz.func202, Tryz.ntmps202
  go_wp2_with (first
    | (go_at_call 248; (with_reducible refine HU.out.mono ?_); rintro e w2 ⟨rfl, hbe⟩)
    | (go_at_call 249; (with_reducible refine (HF.out _ hbe).mono ?_); rintro e w3 ⟨s, rfl, hb3⟩))
  go_ret2
  exact ⟨s, rfl, hb3⟩

theorem beFrom_lt : ∀ (l : List UInt8) (a : Nat), Lib.beFrom a l < (a + 1) * 256 ^ l.length
  | [], a => by simp [Lib.beFrom]
  | b :: r, a => by
    have hb := b.toNat_lt
    have IH := beFrom_lt r (a * 256 + b.toNat)
    rw [Lib.beFrom, List.length_cons, Nat.pow_succ, Nat.mul_comm (256 ^ r.length) 256, ← Nat.mul_assoc]
    exact Nat.lt_of_lt_of_le IH (Nat.mul_le_mul_right _ (by omega))
theorem be_lt (l : List UInt8) : Lib.beNat l < 256 ^ l.length := by
  have := beFrom_lt l 0
  rwa [Nat.zero_add, Nat.one_mul] at this
theorem be_lt8 (b0 b1 b2 b3 b4 b5 b6 b7 : UInt8) : Lib.beNat [b0, b1, b2, b3, b4, b5, b6, b7] < 18446744073709551616 := by
  have := be_lt [b0, b1, b2, b3, b4, b5, b6, b7]
  rw [show [b0, b1, b2, b3, b4, b5, b6, b7].length = 8 from rfl] at this
  exact Nat.lt_of_lt_of_le this (by decide)

set_option maxRecDepth 100000 in
set_option maxHeartbeats 4000000 in
theorem bts239 (b0 b1 b2 b3 b4 b5 b6 b7 : UInt8) : BtsY 239 [b0, b1, b2, b3, b4, b5, b6, b7] := by
  intro w g o cp _ he hc
  have HU := Lib.hid (Tryz.binary_BE_Uint64 g o 8 cp b0 b1 b2 b3 b4 b5 b6 b7 w (by decide) (hc 0 (by simp)) (hc 1 (by simp)) (hc 2 (by simp)) (hc 3 (by simp)) (hc 4 (by simp)) (hc 5 (by simp)) (hc 6 (by simp)) (hc 7 (by simp)))
  have hlt : Lib.beNat [b0, b1, b2, b3, b4, b5, b6, b7] < 18446744073709551616 := be_lt8 _ _ _ _ _ _ _ _
  show Calls Tryz.prog 239 #[.slice (some ⟨g, o, none⟩) 8 cp] w _
  generalize hn : Lib.beNat [b0, b1, b2, b3, b4, b5, b6, b7] = n at *
  have HF : Hid (∀ w2, Below w.heap.size w w2 → Calls Tryz.prog 249 #[.int .u64 n, .int .i64 10] w2 fun e w' => ∃ s, e = .returned (.string s) ∧ Below w.heap.size w w') := Lib.hid fun w2 hb => by
    refine (fmtUintA n (by omega) w2 (he.up hb).tab).mono ?_
    rintro e w' ⟨s, rfl, hb2⟩
    exact ⟨s, rfl, hb.trans (hb2.mono hb.size)⟩
  clear hc hn he
  go_enter Tryz.func239, Tryz.ntmps239
  go_wp2_with (first
    | (go_at_call 274; (with_reducible refine HU.out.mono ?_); rintro e w2 ⟨rfl, hbe⟩)
    | (go_at_call 249; (with_reducible refine (HF.out _ hbe).mono ?_); rintro e w3 ⟨s, rfl, hb3⟩))
  go_ret2
  exact ⟨s, rfl, hb3⟩

set_option maxRecDepth 100000 in
set_option maxHeartbeats 4000000 in
theorem val216Y (l : List UInt8) (hl : l.length = 12) (h : (l.getD 10 0 == 0 && l.getD 11 0 == 0) = false) : ValY 216 l := by
  intro w g o cp hcp _ hc
  obtain ⟨x, hx⟩ : ∃ x, x = l[10] := ⟨_, rfl⟩
  obtain ⟨y, hy⟩ : ∃ y, y = l[11] := ⟨_, rfl⟩
  have c0 : w.cell? ⟨g, o + 10, none⟩ = some (.int .u8 x.toNat) := by rw [hx]; exact hc 10 (by omega)
  have c1 : w.cell? ⟨g, o + 10 + 1, none⟩ = some (.int .u8 y.toNat) := by rw [hy]; exact hc 11 (by omega)
  have hgl := World.block_lt_of_cell? w _ c0
  have HU : Hid (∀ w2, Below w.heap.size w w2 → Calls Tryz.prog 248 #[.agg #[], .slice (some ⟨g, o + 10, none⟩) 2 (cp - 10)] w2 fun e w' => e = .returned (.int .u16 (Lib.beNat [x, y])) ∧ Below w.heap.size w w') := Lib.hid fun w2 hb => by
    refine (Tryz.binary_BE_Uint16 g (o + 10) 2 (cp - 10) x y w2 (by decide) ((hb.cell (p := ⟨g, o + 10, none⟩) hgl).trans c0) ((hb.cell (p := ⟨g, o + 10 + 1, none⟩) hgl).trans c1)).mono ?_
    rintro e w' ⟨rfl, hb2⟩
    exact ⟨rfl, hb.trans (hb2.mono hb.size)⟩
  have hz : (((Lib.beNat [x, y] : Nat) : Int) == 0) = false := by
    have hxx : l.getD 10 0 = x := by rw [hx]; simp [List.getD, hl]
    have hyy : l.getD 11 0 = y := by rw [hy]; simp [List.getD, hl]
    rw [hxx, hyy] at h
    rw [be2]
    have h : ¬ (x = 0 ∧ y = 0) := by simpa using h
    have hx0 : x.toNat = 0 → x = 0 := fun e => UInt8.toNat_inj.1 (by simpa using e)
    have hy0 : y.toNat = 0 → y = 0 := fun e => UInt8.toNat_inj.1 (by simpa using e)
    have : ((x.toNat * 256 + y.toNat : Nat) : Int) ≠ 0 := fun e => h ⟨hx0 (by omega), hy0 (by omega)⟩
    simpa using this
  rw [hl] at hcp ⊢
  have HUd : Hid (Calls Tryz.prog 248 #[.agg #[], .slice (some ⟨g, o + 10, none⟩) 2 (cp - 10)] w.drew fun e w' => e = .returned (.int .u16 (Lib.beNat [x, y])) ∧ Below w.heap.size w w') := Lib.hid (HU.out w.drew (Below.refl _ _).drew)
  generalize Lib.beNat [x, y] = n at *
  clear hc h hx hy c0 c1 HU
  go_enter Tryz.func216, Tryz.ntmps216
  go_wp2
  go_region_held (fun w' => Below w.heap.size w w')
    (first
      | with_reducible assumption
      | exact (Below.refl _ _).drew
      | exact hb2)
    ((go_at_call 248; (with_reducible refine HUd.out.mono ?_); rintro e w2 ⟨rfl, hb2⟩))
  all_goals
    go_wp2
    go_ret
    exact ⟨rfl, hb2⟩

set_option maxRecDepth 100000 in
set_option maxHeartbeats 4000000 in
theorem val216N (l : List UInt8) (hl : l.length = 12) (h : (l.getD 10 0 == 0 && l.getD 11 0 == 0) = true) : ValN 216 l := by
  intro w g o cp hcp _ hc
  obtain ⟨x, hx⟩ : ∃ x, x = l[10] := ⟨_, rfl⟩
  obtain ⟨y, hy⟩ : ∃ y, y = l[11] := ⟨_, rfl⟩
  have c0 : w.cell? ⟨g, o + 10, none⟩ = some (.int .u8 x.toNat) := by rw [hx]; exact hc 10 (by omega)
  have c1 : w.cell? ⟨g, o + 10 + 1, none⟩ = some (.int .u8 y.toNat) := by rw [hy]; exact hc 11 (by omega)
  have hgl := World.block_lt_of_cell? w _ c0
  have HU : Hid (∀ w2, Below w.heap.size w w2 → Calls Tryz.prog 248 #[.agg #[], .slice (some ⟨g, o + 10, none⟩) 2 (cp - 10)] w2 fun e w' => e = .returned (.int .u16 (Lib.beNat [x, y])) ∧ Below w.heap.size w w') := Lib.hid fun w2 hb => by
    refine (Tryz.binary_BE_Uint16 g (o + 10) 2 (cp - 10) x y w2 (by decide) ((hb.cell (p := ⟨g, o + 10, none⟩) hgl).trans c0) ((hb.cell (p := ⟨g, o + 10 + 1, none⟩) hgl).trans c1)).mono ?_
    rintro e w' ⟨rfl, hb2⟩
    exact ⟨rfl, hb.trans (hb2.mono hb.size)⟩
  have hz : (((Lib.beNat [x, y] : Nat) : Int) == 0) = true := by
    have hxx : l.getD 10 0 = x := by rw [hx]; simp [List.getD, hl]
    have hyy : l.getD 11 0 = y := by rw [hy]; simp [List.getD, hl]
    rw [hxx, hyy] at h
    rw [be2]
    have h : x = 0 ∧ y = 0 := by simpa using h
    rw [h.1, h.2]
    rfl
  rw [hl] at hcp ⊢
  have HUd : Hid (Calls Tryz.prog 248 #[.agg #[], .slice (some ⟨g, o + 10, none⟩) 2 (cp - 10)] w.drew fun e w' => e = .returned (.int .u16 (Lib.beNat [x, y])) ∧ Below w.heap.size w w') := Lib.hid (HU.out w.drew (Below.refl _ _).drew)
  generalize Lib.beNat [x, y] = n at *
  clear hc h hx hy c0 c1 HU
  go_enter Tryz.func216, Tryz.ntmps216
  go_wp2
  go_region_held (fun w' => Below w.heap.size w w')
    (first
      | with_reducible assumption
      | exact (Below.refl _ _).drew
      | exact hb2)
    ((go_at_call 248; (with_reducible refine HUd.out.mono ?_); rintro e w2 ⟨rfl, hb2⟩))
  all_goals
    go_wp2_with (go_at_call 52; (with_reducible refine (errorsNew _ _).mono ?_); rintro e w5 ⟨t, p, rfl, hb5⟩)
    go_ret
    exact ⟨t, p, rfl, hb2.trans (hb5.mono hb2.size)⟩

set_option maxRecDepth 100000 in
set_option maxHeartbeats 4000000 in
theorem val219Y (l : List UInt8) (hl : l.length = 37) (h : (l.getD 35 0 == 0 && l.getD 36 0 == 0) = false) : ValY 219 l := by
  intro w g o cp hcp _ hc
  obtain ⟨x, hx⟩ : ∃ x, x = l[35] := ⟨_, rfl⟩
  obtain ⟨y, hy⟩ : ∃ y, y = l[36] := ⟨_, rfl⟩
  have c0 : w.cell? ⟨g, o + 35, none⟩ = some (.int .u8 x.toNat) := by rw [hx]; exact hc 35 (by omega)
  have c1 : w.cell? ⟨g, o + 35 + 1, none⟩ = some (.int .u8 y.toNat) := by rw [hy]; exact hc 36 (by omega)
  have hgl := World.block_lt_of_cell? w _ c0
  have HU : Hid (∀ w2, Below w.heap.size w w2 → Calls Tryz.prog 248 #[.agg #[], .slice (some ⟨g, o + 35, none⟩) 2 (cp - 35)] w2 fun e w' => e = .returned (.int .u16 (Lib.beNat [x, y])) ∧ Below w.heap.size w w') := Lib.hid fun w2 hb => by
    refine (Tryz.binary_BE_Uint16 g (o + 35) 2 (cp - 35) x y w2 (by decide) ((hb.cell (p := ⟨g, o + 35, none⟩) hgl).trans c0) ((hb.cell (p := ⟨g, o + 35 + 1, none⟩) hgl).trans c1)).mono ?_
    rintro e w' ⟨rfl, hb2⟩
    exact ⟨rfl, hb.trans (hb2.mono hb.size)⟩
  have hz : (((Lib.beNat [x, y] : Nat) : Int) == 0) = false := by
    have hxx : l.getD 35 0 = x := by rw [hx]; simp [List.getD, hl]
    have hyy : l.getD 36 0 = y := by rw [hy]; simp [List.getD, hl]
    rw [hxx, hyy] at h
    rw [be2]
    have h : ¬ (x = 0 ∧ y = 0) := by simpa using h
    have hx0 : x.toNat = 0 → x = 0 := fun e => UInt8.toNat_inj.1 (by simpa using e)
    have hy0 : y.toNat = 0 → y = 0 := fun e => UInt8.toNat_inj.1 (by simpa using e)
    have : ((x.toNat * 256 + y.toNat : Nat) : Int) ≠ 0 := fun e => h ⟨hx0 (by omega), hy0 (by omega)⟩
    simpa using this
  rw [hl] at hcp ⊢
  have HUd : Hid (Calls Tryz.prog 248 #[.agg #[], .slice (some ⟨g, o + 35, none⟩) 2 (cp - 35)] w.drew fun e w' => e = .returned (.int .u16 (Lib.beNat [x, y])) ∧ Below w.heap.size w w') := Lib.hid (HU.out w.drew (Below.refl _ _).drew)
  generalize Lib.beNat [x, y] = n at *
  clear hc h hx hy c0 c1 HU
  go_enter Tryz.func219, Tryz.ntmps219
  go_wp2
  go_region_held (fun w' => Below w.heap.size w w')
    (first
      | with_reducible assumption
      | exact (Below.refl _ _).drew
      | exact hb2)
    ((go_at_call 248; (with_reducible refine HUd.out.mono ?_); rintro e w2 ⟨rfl, hb2⟩))
  all_goals
    go_wp2
    go_ret
    exact ⟨rfl, hb2⟩

set_option maxRecDepth 100000 in
set_option maxHeartbeats 4000000 in
theorem val219N (l : List UInt8) (hl : l.length = 37) (h : (l.getD 35 0 == 0 && l.getD 36 0 == 0) = true) : ValN 219 l := by
  intro w g o cp hcp _ hc
  obtain ⟨x, hx⟩ : ∃ x, x = l[35] := ⟨_, rfl⟩
  obtain ⟨y, hy⟩ : ∃ y, y = l[36] := ⟨_, rfl⟩
  have c0 : w.cell? ⟨g, o + 35, none⟩ = some (.int .u8 x.toNat) := by rw [hx]; exact hc 35 (by omega)
  have c1 : w.cell? ⟨g, o + 35 + 1, none⟩ = some (.int .u8 y.toNat) := by rw [hy]; exact hc 36 (by omega)
  have hgl := World.block_lt_of_cell? w _ c0
  have HU : Hid (∀ w2, Below w.heap.size w w2 → Calls Tryz.prog 248 #[.agg #[], .slice (some ⟨g, o + 35, none⟩) 2 (cp - 35)] w2 fun e w' => e = .returned (.int .u16 (Lib.beNat [x, y])) ∧ Below w.heap.size w w') := Lib.hid fun w2 hb => by
    refine (Tryz.binary_BE_Uint16 g (o + 35) 2 (cp - 35) x y w2 (by decide) ((hb.cell (p := ⟨g, o + 35, none⟩) hgl).trans c0) ((hb.cell (p := ⟨g, o + 35 + 1, none⟩) hgl).trans c1)).mono ?_
    rintro e w' ⟨rfl, hb2⟩
    exact ⟨rfl, hb.trans (hb2.mono hb.size)⟩
  have hz : (((Lib.beNat [x, y] : Nat) : Int) == 0) = true := by
    have hxx : l.getD 35 0 = x := by rw [hx]; simp [List.getD, hl]
    have hyy : l.getD 36 0 = y := by rw [hy]; simp [List.getD, hl]
    rw [hxx, hyy] at h
    rw [be2]
    have h : x = 0 ∧ y = 0 := by simpa using h
    rw [h.1, h.2]
    rfl
  rw [hl] at hcp ⊢
  have HUd : Hid (Calls Tryz.prog 248 #[.agg #[], .slice (some ⟨g, o + 35, none⟩) 2 (cp - 35)] w.drew fun e w' => e = .returned (.int .u16 (Lib.beNat [x, y])) ∧ Below w.heap.size w w') := Lib.hid (HU.out w.drew (Below.refl _ _).drew)
  generalize Lib.beNat [x, y] = n at *
  clear hc h hx hy c0 c1 HU
  go_enter Tryz.func219, Tryz.ntmps219
  go_wp2
  go_region_held (fun w' => Below w.heap.size w w')
    (first
      | with_reducible assumption
      | exact (Below.refl _ _).drew
      | exact hb2)
    ((go_at_call 248; (with_reducible refine HUd.out.mono ?_); rintro e w2 ⟨rfl, hb2⟩))
  all_goals
    go_wp2_with (go_at_call 52; (with_reducible refine (errorsNew _ _).mono ?_); rintro e w5 ⟨t, p, rfl, hb5⟩)
    go_ret
    exact ⟨t, p, rfl, hb2.trans (hb5.mono hb2.size)⟩
end Go.Proofs.YtnpcmmjdojdmnaaGreatDoor
namespace Go.Proofs.YtnpcmmjdojdmnaaGreatDoor
open Go Go.RowKit Go.Sort

set_option maxRecDepth 100000 in
set_option maxHeartbeats 4000000 in
theorem to4_mapped (g o cp : Nat) (l : List UInt8) (w : World) (hl : l.length = 16) (hcp : 16 ≤ cp) (h : At w g o l) (hm : mapped l = true) :
    Calls Tryz.prog 97 #[.slice (some ⟨g, o, none⟩) 16 cp] w fun e w' => ∃ c2, e = .returned (.slice (some ⟨g, o + 12, none⟩) 4 c2) ∧ w = w' := by
  have c0 : w.cell? ⟨g, o + 10, none⟩ = some (.int .u8 l[10].toNat) := h 10 (by omega)
  have c1 : w.cell? ⟨g, o + 11, none⟩ = some (.int .u8 l[11].toNat) := h 11 (by omega)
  have hm' : ((l.take 10).all (fun x => x.toNat == 0) && (l[10].toNat == 255) && (l[11].toNat == 255)) = true := by
    have := hm
    rw [mapped, List.getElem?_eq_getElem (by omega : 10 < l.length), List.getElem?_eq_getElem (by omega : 11 < l.length)] at this
    simpa using this
  simp only [Bool.and_eq_true, beq_iff_eq] at hm'
  obtain ⟨⟨hz, hx⟩, hy⟩ := hm'
  have hZ : ∀ c, Calls Tryz.prog 158 #[.slice (some ⟨g, o, none⟩) 10 c] w fun e w' => e = .returned (.bool true) ∧ w = w' := fun c => by
    have h10 : (l.take 10).length = 10 := by simp; omega
    have := isZeros g o c (l.take 10) w (by omega) (fun j hj => by rw [h j (by omega), List.getElem_take])
    rwa [h10, hz] at this
  rw [hx] at c0
  rw [hy] at c1
  have HZ := Lib.hid hZ; clear hZ h hm hx hy hz
  go_enter Tryz.func97, Tryz.ntmps97
  go_wp2_with (go_at_call 158; with_reducible refine (HZ.out _).mono ?_; rintro e w2 ⟨rfl, rfl⟩)
  go_ret
  exact ⟨_, rfl, rfl⟩

theorem quadT_size (a b c d : UInt8) : (⟨(quadT a.toNat b.toNat c.toNat d.toNat).toArray⟩ : ByteArray).size ≤ 100 := by
  show (quadT _ _ _ _).toArray.size ≤ 100
  have h1 := digits3 a.toNat a.toNat_lt
  have h2 := digits3 b.toNat b.toNat_lt
  have h3 := digits3 c.toNat c.toNat_lt
  have h4 := digits3 d.toNat d.toNat_lt
  rw [List.size_toArray, quadT]
  simp
  omega

set_option maxRecDepth 100000 in
set_option maxHeartbeats 4000000 in
theorem ip6BtSm (l : List UInt8) (hl : l.length = 16) (hm : mapped l = true) (g o cp : Nat) (hcp : 16 ≤ cp) (w : World) (ht : Tab w) (h : At w g o l) :
    Calls Tryz.prog 207 #[.slice (some ⟨g, o, none⟩) 16 cp] w fun e w' => ∃ s, e = .returned (.tuple #[.string s, .nilIface]) ∧ Below w.heap.size w w' := by
  have H4 := Lib.hid (to4_mapped g o cp l w hl hcp h hm)
  have hat : At w g (o + 12) [l[12], l[13], l[14], l[15]] := fun j hj => by
    have hj4 : j < 4 := hj
    have := h (12 + j) (by omega)
    rw [show o + (12 + j) = o + 12 + j by omega] at this
    rw [this]
    match j, hj4 with
    | 0, _ => rfl
    | 1, _ => rfl
    | 2, _ => rfl
    | 3, _ => rfl
  have HP : Hid (∀ c2, Calls Tryz.prog 99 #[.slice (some ⟨g, o + 12, none⟩) 4 c2] w fun e w' => ∃ s, e = .returned (.string s) ∧ s.size ≤ 100 ∧ Below w.heap.size w w') := Lib.hid fun c2 => by
    refine (ipString4' l[12] l[13] l[14] l[15] g (o + 12) c2 w ht hat).mono ?_
    rintro e w' ⟨rfl, hb⟩
    exact ⟨_, rfl, quadT_size _ _ _ _, hb⟩
  have hnil : ∀ (w : World) (g : Nat) (c2 : Nat), (binOp .neq 76 (.slice (some ⟨g, o + 12, none⟩) 4 c2) (.slice none 0 0)).run Tryz.prog w = .ok (.bool true) w := fun w g c2 => by
    simp [binOp, run_equal_slice_nil w 76 5 (some ⟨g, o + 12, none⟩) 4 c2 Tryz.underlying76, Result.andThen]
  clear h hm hat
  go_enter Tryz.func207, Tryz.ntmps207
  go_wp2_with (first
    | (go_at_call 97; (with_reducible refine H4.out.mono ?_); rintro e w2 ⟨c2, rfl, rfl⟩)
    | (go_at_call 99; (with_reducible refine (HP.out _).mono ?_); rintro e w2 ⟨s, rfl, hsz, hbe⟩; have hcat : ((⟨#[58, 58, 102, 102, 102, 102, 58]⟩ : ByteArray).size : Int) + (s.size : Int) ≤ 9223372036854775807 := (by show (7 : Int) + _ ≤ _; omega)))
  go_ret2
  exact ⟨_, rfl, hbe⟩

theorem bts207 (l : List UInt8) (hl : l.length = 16) : BtsY 207 l := by
  intro w g o cp hcp he hc
  rw [hl] at hcp ⊢
  cases hm : mapped l with
  | true => exact ip6BtSm l hl hm g o cp hcp w he.tab hc
  | false => exact ip6BtS l hl hm g o cp hcp w hc

theorem bts200 (l : List UInt8) (hl : l.length = 4) : BtsY 200 l := by
  intro w g o cp hcp he hc
  match l, hl with
  | [a, b, c, d], _ => exact ip4BtST a b c d g o cp w he.tab hc
end Go.Proofs.YtnpcmmjdojdmnaaGreatDoor
namespace Go.Proofs.YtnpcmmjdojdmnaaGreatDoor
open Go Go.RowKit Go.Sort

set_option maxRecDepth 100000 in
set_option maxHeartbeats 4000000 in
theorem mhUvN (l : List UInt8) (hr : rdVar l = none) (g o cp : Nat) (w : World) (hE : Errs w) (hc : At w g o l) :
    Calls Tryz.prog 396 #[.slice (some ⟨g, o, none⟩) l.length cp] w fun e w' => ∃ t p, e = .returned (.tuple #[.int .u64 0, .slice (some ⟨g, o, none⟩) l.length cp, .iface t p]) ∧ Below w.heap.size w w' := by
  have H := Lib.hid (fromUvarint g o l.length cp l w rfl hc hE)
  rw [hr] at H
  clear hr hE hc
  go_enter Tryz.func396, Tryz.ntmps396
  go_wp2_with (go_at_call 150; (with_reducible refine H.out.mono ?_); rintro e w1 ⟨⟨t, p, rfl⟩, hb1⟩)
  go_ret3
  exact ⟨t, p, rfl, hb1⟩

set_option maxRecDepth 100000 in
set_option maxHeartbeats 4000000 in
theorem mhUvY (l : List UInt8) (v n : Nat) (hr : rdVar l = some (v, n)) (g o cp : Nat) (w : World) (hE : Errs w) (hc : At w g o l) (hcp : l.length ≤ cp) (_hlim : l.length ≤ 1000000) :
    Calls Tryz.prog 396 #[.slice (some ⟨g, o, none⟩) l.length cp] w fun e w' => ∃ o' cp', e = .returned (.tuple #[.int .u64 v, .slice (some ⟨g, o', none⟩) (l.length - n) cp', .nilIface]) ∧ At w g o' (l.drop n) ∧ l.length - n ≤ cp' ∧ Below w.heap.size w w' := by
  have H := Lib.hid (fromUvarint g o l.length cp l w rfl hc hE)
  rw [hr] at H
  obtain ⟨r, hl, hn, hv⟩ := rdVar_some hr
  have hn1 : 1 ≤ n := by rw [hn]; exact Lib.uvarint_pos _
  have hnl : n ≤ l.length := by rw [hl, List.length_append, ← hn]; omega
  have hat : Hid (At w g (o + n) (l.drop n)) := Lib.hid (by
    have : l = l.take n ++ l.drop n := (List.take_append_drop n l).symm
    rw [this] at hc
    have h2 := hc.drop
    rwa [List.length_take, Nat.min_eq_left hnl] at h2)
  have HD : Hid ((l.drop n).length = l.length - n) := Lib.hid List.length_drop
  have e0 : ((n : Int) == 0) = false := by
    have : (n : Int) ≠ 0 := by omega
    simpa using this
  have e1 : decide ((n : Int) < 0) = false := by simp
  have q1 : (0 : Int) ≤ (n : Int) := by omega
  have q2 : (n : Int) ≤ (l.length : Int) := by omega
  clear hr hE hc hl hn
  rcases Decidable.em (n = cp) with rfl | hcc
  · have hln : l.length = n := by omega
    have HLN := Lib.hid hln
    clear hln
    go_enter Tryz.func396, Tryz.ntmps396
    go_wp2_with (go_at_call 150; (with_reducible refine H.out.mono ?_); rintro e w1 ⟨rfl, hb1⟩)
    go_quiet (fail)
    go_wp2
    go_ret3
    have e := HLN.out
    exact ⟨o, 0, by rw [e, Nat.sub_self]; rfl, fun j hj => by rw [HD.out] at hj; omega, by omega, below_drewN hb1 _⟩
  · go_enter Tryz.func396, Tryz.ntmps396
    go_wp2_with (go_at_call 150; (with_reducible refine H.out.mono ?_); rintro e w1 ⟨rfl, hb1⟩)
    go_quiet (fail)
    go_wp2
    go_ret3
    exact ⟨o + n, cp - n, rfl, hat.out, by omega, below_drewN hb1 _⟩

/-- The head of a multihash: code, length of the digest, length of all. -/
def mhHead (l : List UInt8) : Option (Nat × Nat × Nat) :=
  if l.length < 2 then none else match rdVar l with
  | none => none
  | some (code, n) => match rdVar (l.drop n) with
    | none => none
    | some (m, k) => if 2147483647 < m ∨ (l.drop (n + k)).length < m then none else some (code, m, n + k + m)

theorem mhRead_head (l : List UInt8) : mhRead l = match mhHead l with
  | none => none
  | some (code, m, r) => if r = l.length then some (code, m) else none := by
  rw [mhRead, mhHead]
  split
  · rfl
  · cases h1 : rdVar l with
    | none => rfl
    | some x =>
      obtain ⟨code, n⟩ := x
      simp only
      cases h2 : rdVar (l.drop n) with
      | none => rfl
      | some y =>
        obtain ⟨m, k⟩ := y
        simp only
        split
        · rfl
        · rename_i h
          obtain ⟨r, hl, hn, _⟩ := rdVar_some h1
          obtain ⟨r2, hl2, hk, _⟩ := rdVar_some h2
          have e1 := congrArg List.length hl2
          rw [List.length_append, List.length_drop, ← hk] at e1
          have e2 := Lib.uvarint_pos m
          have e3 : (l.drop (n + k)).length = l.length - (n + k) := List.length_drop
          by_cases hx : (l.drop (n + k)).length = m
          · rw [if_pos hx]
            simp only
            rw [if_pos (by omega)]
          · rw [if_neg hx]
            simp only
            rw [if_neg (by omega)]

theorem results367 (tmps : Array Value) (w : World) : (results Tryz.f367 tmps).run Tryz.prog w = .ok (.tuple #[tmps.getD 2 undef, tmps.getD 3 undef, tmps.getD 4 undef, tmps.getD 5 undef]) w := by
  simp [results, Tryz.results367]

set_option maxRecDepth 100000 in
set_option maxHeartbeats 4000000 in
theorem mhBufN (l : List UInt8) (hr : mhHead l = none) (g o cp : Nat) (w : World) (hE : Errs w) (hc : At w g o l) (hcp : l.length ≤ cp) (hlim : l.length ≤ 1000000) :
    Calls Tryz.prog 367 #[.slice (some ⟨g, o, none⟩) l.length cp] w fun e w' => ∃ t p, e = .returned (.tuple #[.int .i64 0, .int .u64 0, .slice none 0 0, .iface t p]) ∧ Below w.heap.size w w' := by
  rw [mhHead] at hr
  split at hr
  · rename_i h2
    obtain ⟨t20, p20, c20⟩ := hE.at 20
    have e0 : decide ((l.length : Int) < 2) = true := by simp; omega
    clear hE hc hr
    go_enter Tryz.func367, Tryz.ntmps367
    go_wp2
    go_quiet (fail)
    go_wp2
    refine bodyPost_ret (results367 _ _) rfl ?_
    exact ⟨t20, p20, rfl, below_drewN (Below.refl _ _) _⟩
  · rename_i h2
    have e0 : decide ((l.length : Int) < 2) = false := by simp; omega
    have hgl : g < w.heap.size := hc.lt (by omega)
    cases h1 : rdVar l with
    | none =>
      have H1 := Lib.hid (mhUvN l h1 g o cp w hE hc)
      clear hE hc hr h1
      go_enter Tryz.func367, Tryz.ntmps367
      go_wp2_with (go_at_call 396; (with_reducible refine H1.out.mono ?_); rintro e w1 ⟨t, p, rfl, hb1⟩)
      refine bodyPost_ret (results367 _ _) rfl ?_
      exact ⟨t, p, rfl, hb1⟩
    | some x =>
      obtain ⟨code, n⟩ := x
      have H1 := Lib.hid (mhUvY l code n h1 g o cp w hE hc hcp hlim)
      rw [h1] at hr
      simp only at hr
      have hLD : (l.drop n).length = l.length - n := List.length_drop
      have HE := Lib.hid hE
      cases h3 : rdVar (l.drop n) with
      | none =>
        have HN : Hid (∀ (w1 : World) (o1 cp1 : Nat), Below w.heap.size w w1 → At w1 g o1 (l.drop n) → Calls Tryz.prog 396 #[.slice (some ⟨g, o1, none⟩) (l.length - n) cp1] w1 fun e w' => ∃ t p, e = .returned (.tuple #[.int .u64 0, .slice (some ⟨g, o1, none⟩) (l.length - n) cp1, .iface t p]) ∧ Below w.heap.size w w') := Lib.hid fun w1 o1 cp1 hb hat => by
          have := mhUvN (l.drop n) h3 g o1 cp1 w1 (HE.out.below hb (Nat.le_refl _)) hat
          rw [hLD] at this
          refine this.mono ?_
          rintro e w' ⟨t, p, rfl, hb2⟩
          exact ⟨t, p, rfl, hb.trans (hb2.mono hb.size)⟩
        clear hE hc hr h1 h3 hLD
        go_enter Tryz.func367, Tryz.ntmps367
        go_wp2_with (first
          | (go_at_call 396; (with_reducible refine H1.out.mono ?_); rintro e w1 ⟨o1, cp1, rfl, hat1, hcp1, hb1⟩; have hat1' := hat1.below hb1 hgl)
          | (go_at_call 396; (with_reducible refine (HN.out w1 o1 cp1 hb1 hat1').mono ?_); rintro e w2 ⟨t, p, rfl, hb2⟩))
        refine bodyPost_ret (results367 _ _) rfl ?_
        exact ⟨t, p, rfl, hb2⟩
      | some y =>
        obtain ⟨m, k⟩ := y
        rw [h3] at hr
        simp only at hr
        have hbad : 2147483647 < m ∨ (l.drop (n + k)).length < m := by
          by_cases hx : 2147483647 < m ∨ (l.drop (n + k)).length < m
          · exact hx
          · rw [if_neg hx] at hr; cases hr
        have hm := (rdVar_some h3).choose_spec.2.2
        have hL2 : (l.drop (n + k)).length = l.length - n - k := by rw [List.length_drop]; omega
        rw [hL2] at hbad
        have HY : Hid (∀ (w1 : World) (o1 cp1 : Nat), Below w.heap.size w w1 → At w1 g o1 (l.drop n) → l.length - n ≤ cp1 → Calls Tryz.prog 396 #[.slice (some ⟨g, o1, none⟩) (l.length - n) cp1] w1 fun e w' => ∃ o2 cp2, e = .returned (.tuple #[.int .u64 m, .slice (some ⟨g, o2, none⟩) (l.length - n - k) cp2, .nilIface]) ∧ Below w.heap.size w w') := Lib.hid fun w1 o1 cp1 hb hat hle => by
          have := mhUvY (l.drop n) m k h3 g o1 cp1 w1 (HE.out.below hb (Nat.le_refl _)) hat (by rw [hLD]; exact hle) (by rw [hLD]; omega)
          rw [hLD] at this
          refine this.mono ?_
          rintro e w' ⟨o2, cp2, rfl, _, _, hb2⟩
          exact ⟨o2, cp2, rfl, hb.trans (hb2.mono hb.size)⟩
        generalize l.length - n - k = R at *
        clear hE hc hr h1 h3 hLD hL2
        by_cases hbig : 2147483647 < m
        · have e1 : decide (2147483647 < (m : Int)) = true := by simp; omega
          go_enter Tryz.func367, Tryz.ntmps367
          go_wp2_with (first
            | (go_at_call 396; (with_reducible refine H1.out.mono ?_); rintro e w1 ⟨o1, cp1, rfl, hat1, hcp1, hb1⟩; have hat1' := hat1.below hb1 hgl)
            | (go_at_call 396; (with_reducible refine (HY.out w1 o1 cp1 hb1 hat1' hcp1).mono ?_); rintro e w2 ⟨o2, cp2, rfl, hb2⟩)
            | (go_at_call 52; (with_reducible refine (errorsNew _ _).mono ?_); rintro e w5 ⟨t, p, rfl, hb5⟩))
          refine bodyPost_ret (results367 _ _) rfl ?_
          exact ⟨t, p, rfl, hb2.trans (hb5.mono hb2.size)⟩
        · have e1 : decide (2147483647 < (m : Int)) = false := by simp; omega
          have e2 : IntKind.i64.wrap (m : Int) = m := IntWalk.i64_in _ (by omega)
          have e3 : decide ((R : Int) < (m : Int)) = true := by simp; omega
          go_enter Tryz.func367, Tryz.ntmps367
          go_wp2_with (first
            | (go_at_call 396; (with_reducible refine H1.out.mono ?_); rintro e w1 ⟨o1, cp1, rfl, hat1, hcp1, hb1⟩; have hat1' := hat1.below hb1 hgl)
            | (go_at_call 396; (with_reducible refine (HY.out w1 o1 cp1 hb1 hat1' hcp1).mono ?_); rintro e w2 ⟨o2, cp2, rfl, hb2⟩)
            | (go_at_call 52; (with_reducible refine (errorsNew _ _).mono ?_); rintro e w5 ⟨t, p, rfl, hb5⟩))
          refine bodyPost_ret (results367 _ _) rfl ?_
          exact ⟨t, p, rfl, hb2.trans (hb5.mono hb2.size)⟩

set_option maxRecDepth 100000 in
set_option maxHeartbeats 4000000 in
theorem mhBufY (l : List UInt8) (code m r : Nat) (hr : mhHead l = some (code, m, r)) (g o cp : Nat) (w : World) (hE : Errs w) (hc : At w g o l) (hcp : l.length ≤ cp) (hlim : l.length ≤ 1000000) :
    Calls Tryz.prog 367 #[.slice (some ⟨g, o, none⟩) l.length cp] w fun e w' => ∃ o2 cp2, e = .returned (.tuple #[.int .i64 r, .int .u64 code, .slice (some ⟨g, o2, none⟩) m cp2, .nilIface]) ∧ Below w.heap.size w w' := by
  rw [mhHead] at hr
  split at hr
  · cases hr
  rename_i h2
  have e0 : decide ((l.length : Int) < 2) = false := by simp; omega
  have hgl : g < w.heap.size := hc.lt (by omega)
  cases h1 : rdVar l with
  | none => rw [h1] at hr; cases hr
  | some x =>
    obtain ⟨code', n⟩ := x
    rw [h1] at hr
    simp only at hr
    cases h3 : rdVar (l.drop n) with
    | none => rw [h3] at hr; cases hr
    | some y =>
      obtain ⟨m', k⟩ := y
      rw [h3] at hr
      simp only at hr
      split at hr
      · cases hr
      rename_i hgood
      injection hr with hr
      injection hr with hr1 hr2
      injection hr2 with hr2 hr3
      subst hr1 hr2 hr3
      have H1 := Lib.hid (mhUvY l code' n h1 g o cp w hE hc hcp hlim)
      have hLD : (l.drop n).length = l.length - n := List.length_drop
      have HE := Lib.hid hE
      have hL2 : (l.drop (n + k)).length = l.length - n - k := by rw [List.length_drop]; omega
      rw [hL2] at hgood
      obtain ⟨r0, hl0, hn0, _⟩ := rdVar_some h1
      obtain ⟨r2, hl2, hk2, _⟩ := rdVar_some h3
      have hnk : n + k ≤ l.length := by
        have e1 := congrArg List.length hl2
        rw [List.length_append, List.length_drop, ← hk2] at e1
        have e2 := Lib.uvarint_pos m'
        omega
      have HY : Hid (∀ (w1 : World) (o1 cp1 : Nat), Below w.heap.size w w1 → At w1 g o1 (l.drop n) → l.length - n ≤ cp1 → Calls Tryz.prog 396 #[.slice (some ⟨g, o1, none⟩) (l.length - n) cp1] w1 fun e w' => ∃ o2 cp2, e = .returned (.tuple #[.int .u64 m', .slice (some ⟨g, o2, none⟩) (l.length - n - k) cp2, .nilIface]) ∧ l.length - n - k ≤ cp2 ∧ Below w.heap.size w w') := Lib.hid fun w1 o1 cp1 hb hat hle => by
        have := mhUvY (l.drop n) m' k h3 g o1 cp1 w1 (HE.out.below hb (Nat.le_refl _)) hat (by rw [hLD]; exact hle) (by rw [hLD]; omega)
        rw [hLD] at this
        refine this.mono ?_
        rintro e w' ⟨o2, cp2, rfl, _, hle2, hb2⟩
        exact ⟨o2, cp2, rfl, hle2, hb.trans (hb2.mono hb.size)⟩
      obtain ⟨R, hR⟩ : ∃ R, R = l.length - n - k := ⟨_, rfl⟩
      rw [← hR] at HY hgood
      obtain ⟨L, hLL⟩ : ∃ L, L = l.length := ⟨_, rfl⟩
      have e1 : decide (2147483647 < (m' : Int)) = false := by simp; omega
      have e2 : IntKind.i64.wrap (m' : Int) = m' := IntWalk.i64_in _ (by omega)
      have e3 : decide ((R : Int) < (m' : Int)) = false := by simp; omega
      have e4 : IntKind.i64.wrap ((l.length : Int) - (R : Int)) = ((n + k : Nat) : Int) := by rw [IntWalk.i64_in _ (by omega)]; omega
      have e5 : IntKind.i64.wrap (((n + k : Nat) : Int) + (m' : Int)) = ((n + k + m' : Nat) : Int) := by rw [IntWalk.i64_in _ (by omega)]; omega
      have e6 : (0 : Int) ≤ (m' : Int) := by omega
      have HW : Hid (wrap64 ((n : Int) + (k : Int) + (m' : Int)) = ((n + k + m' : Nat) : Int)) := Lib.hid (by unfold wrap64; omega)
      have hmR : m' ≤ R := by omega
      clear hE hc h1 h3 hLD hL2 hl0 hn0 hl2 hk2 hR hLL hgood
      go_enter Tryz.func367, Tryz.ntmps367
      go_wp2_with (first
        | (go_at_call 396; (with_reducible refine H1.out.mono ?_); rintro e w1 ⟨o1, cp1, rfl, hat1, hcp1, hb1⟩; have hat1' := hat1.below hb1 hgl)
        | (go_at_call 396; (with_reducible refine (HY.out w1 o1 cp1 hb1 hat1' hcp1).mono ?_); rintro e w2 ⟨o2, cp2, rfl, hcp2, hb2⟩; have q7 : (m' : Int) ≤ (cp2 : Int) := (by omega)))
      go_quiet (fail)
      go_wp2
      refine bodyPost_ret (results367 _ _) rfl ?_
      exact ⟨o2, cp2, by show Ending.returned (.tuple #[.int .i64 (wrap64 ((n : Int) + (k : Int) + (m' : Int))), _, _, _]) = _; rw [HW.out]; rfl, below_drewN hb2 _⟩
end Go.Proofs.YtnpcmmjdojdmnaaGreatDoor
namespace Go.Proofs.YtnpcmmjdojdmnaaGreatDoor
open Go Go.RowKit Go.Sort

theorem results308 (tmps : Array Value) (w : World) (q : Nat) (a b c d er : Value) (hp2 : tmps.getD 2 undef = .pointer (some ⟨q, 0, none⟩)) (hp3 : tmps.getD 3 undef = er)
    (h0 : w.cell? ⟨q, 0, none⟩ = some a) (h1 : w.cell? ⟨q, 1, none⟩ = some b) (h2 : w.cell? ⟨q, 2, none⟩ = some c) (h3 : w.cell? ⟨q, 3, none⟩ = some d) : (results Tryz.f308 tmps).run Tryz.prog w = .ok (.tuple #[.agg #[a, b, c, d], er]) w := by
  have hp2' : tmps[2]?.getD undef = .pointer (some ⟨q, 0, none⟩) := by simpa using hp2
  have hp3' : tmps[3]?.getD undef = er := by simpa using hp3
  simp [results, Tryz.results308, hp2', hp3', asAddr, go_sem, h0, h1, h2, h3]

theorem row4 {w : World} {q : Nat} {x0 x1 x2 x3 : Value} {t : TypeId} (h : w.heap[q]? = some (.cells #[x0, x1, x2, x3] t (0, 0))) (a b c d : Value) :
    ((((w.setCell ⟨q, 0, none⟩ a).setCell ⟨q, 1, none⟩ b).setCell ⟨q, 2, none⟩ c).setCell ⟨q, 3, none⟩ d).heap[q]? = some (.cells #[a, b, c, d] t (0, 0)) := by
  have h0 : (w.setCell ⟨q, 0, none⟩ a).heap[q]? = some (.cells #[a, x1, x2, x3] t (0, 0)) := by
    rw [setCell_eq_setRow _ _ _ _ t (0, 0) _ h]; exact setRow_heap _ _ _ _ _ _ h
  have h1 : ((w.setCell ⟨q, 0, none⟩ a).setCell ⟨q, 1, none⟩ b).heap[q]? = some (.cells #[a, b, x2, x3] t (0, 0)) := by
    rw [setCell_eq_setRow _ _ _ _ t (0, 0) _ h0]; exact setRow_heap _ _ _ _ _ _ h0
  have h2 : (((w.setCell ⟨q, 0, none⟩ a).setCell ⟨q, 1, none⟩ b).setCell ⟨q, 2, none⟩ c).heap[q]? = some (.cells #[a, b, c, x3] t (0, 0)) := by
    rw [setCell_eq_setRow _ _ _ _ t (0, 0) _ h1]; exact setRow_heap _ _ _ _ _ _ h1
  rw [setCell_eq_setRow _ _ _ _ t (0, 0) _ h2]; exact setRow_heap _ _ _ _ _ _ h2
theorem below4 {B : Nat} {w0 w : World} (h : Below B w0 w) {q : Nat} (hq : B ≤ q) (a b c d : Value) : Below B w0 ((((w.setCell ⟨q, 0, none⟩ a).setCell ⟨q, 1, none⟩ b).setCell ⟨q, 2, none⟩ c).setCell ⟨q, 3, none⟩ d) :=
  (((h.setCell hq _).setCell hq _).setCell hq _).setCell hq _

set_option maxRecDepth 100000 in
set_option maxHeartbeats 4000000 in
theorem mhDecY (l : List UInt8) (code m : Nat) (hr : mhRead l = some (code, m)) (g o cp : Nat) (w : World) (hE : Errs w) (hc : At w g o l) (hcp : l.length ≤ cp) (hlim : l.length ≤ 1000000) :
    Calls Tryz.prog 308 #[.slice (some ⟨g, o, none⟩) l.length cp] w fun e w' => ∃ o2 cp2, e = .returned (.tuple #[.agg #[.int .u64 code, .string ⟨#[]⟩, .int .i64 m, .slice (some ⟨g, o2, none⟩) m cp2], .nilIface]) ∧ Below w.heap.size w w' := by
  have hgl : g < w.heap.size := by
    refine hc.lt ?_
    rw [mhRead] at hr
    split at hr
    · cases hr
    · omega
  have hh : mhHead l = some (code, m, l.length) := by
    rw [mhRead_head] at hr
    split at hr
    · cases hr
    · rename_i code' m' r hh
      split at hr
      · rename_i hrl
        injection hr with hr
        injection hr with h1 h2
        rw [hh, h1, h2, hrl]
      · cases hr
  have H : Hid (∀ ob, Calls Tryz.prog 367 #[.slice (some ⟨g, o, none⟩) l.length cp] (w.alloc ob) fun e w' => ∃ o2 cp2, e = .returned (.tuple #[.int .i64 l.length, .int .u64 code, .slice (some ⟨g, o2, none⟩) m cp2, .nilIface]) ∧ Below (w.alloc ob).heap.size (w.alloc ob) w') := Lib.hid fun ob =>
    mhBufY l code m l.length hh g o cp _ (hE.below ((Below.refl _ _).alloc (Nat.le_refl _) _) (Nat.le_refl _)) (hc.below ((Below.refl _ _).alloc (Nat.le_refl _) _) hgl) hcp hlim
  clear hh hr hE hc
  generalize l.length = N at *
  go_enter Tryz.func308, Tryz.ntmps308
  go_wp2_with (go_at_call 367; (with_reducible refine (H.out _).mono ?_); rintro e w2 ⟨o2, cp2, rfl, hb⟩; obtain ⟨hc, hf⟩ := bcell hb; have hz : w.heap.size < w2.heap.size := (by have := hb.size; simp at this; omega))
  have hrow : w2.heap[w.heap.size]? = some (.cells #[.int .u64 0, .string ⟨#[]⟩, .int .i64 0, .slice none 0 0] 213 (0, 0)) := (hb.block w.heap.size (by simp)).trans (heap_alloc_last w _)
  have h5 := row4 (row4 hrow (.int .u64 code) (.string ⟨#[]⟩) (.int .i64 m) (.slice (some ⟨g, o2, none⟩) m cp2)) (.int .u64 code) (.string ⟨#[]⟩) (.int .i64 m) (.slice (some ⟨g, o2, none⟩) m cp2)
  have hb5 := below4 (below4 (below_under hb) (Nat.le_refl _) (.int .u64 code) (.string ⟨#[]⟩) (.int .i64 m) (.slice (some ⟨g, o2, none⟩) m cp2)) (Nat.le_refl _) (.int .u64 code) (.string ⟨#[]⟩) (.int .i64 m) (.slice (some ⟨g, o2, none⟩) m cp2)
  refine bodyPost_ret (v := .tuple #[.agg #[.int .u64 code, .string ⟨#[]⟩, .int .i64 m, .slice (some ⟨g, o2, none⟩) m cp2], .nilIface]) (results308 _ _ w.heap.size (.int .u64 code) (.string ⟨#[]⟩) (.int .i64 m) (.slice (some ⟨g, o2, none⟩) m cp2) .nilIface rfl rfl (by simp [World.cell?, h5]) (by simp [World.cell?, h5]) (by simp [World.cell?, h5]) (by simp [World.cell?, h5])) rfl ?_
  exact ⟨o2, cp2, rfl, hb5⟩

set_option maxRecDepth 100000 in
set_option maxHeartbeats 4000000 in
theorem mhDecN (l : List UInt8) (hr : mhRead l = none) (g o cp : Nat) (w : World) (hE : Errs w) (hc : At w g o l) (hl : 0 < l.length) (hcp : l.length ≤ cp) (hlim : l.length ≤ 1000000) :
    Calls Tryz.prog 308 #[.slice (some ⟨g, o, none⟩) l.length cp] w fun e w' => ∃ (x0 : Int) (x1 : ByteArray) (x2 : Int) (pa : Option Addr) (na ca : Nat) (t : TypeId) (p : Value), e = .returned (.tuple #[.agg #[.int .u64 x0, .string x1, .int .i64 x2, .slice pa na ca], .iface t p]) ∧ Below w.heap.size w w' := by
  have hgl := hc.lt hl
  cases hh : mhHead l with
  | none =>
    have H : Hid (∀ ob, Calls Tryz.prog 367 #[.slice (some ⟨g, o, none⟩) l.length cp] (w.alloc ob) fun e w' => ∃ t p, e = .returned (.tuple #[.int .i64 0, .int .u64 0, .slice none 0 0, .iface t p]) ∧ Below (w.alloc ob).heap.size (w.alloc ob) w') := Lib.hid fun ob =>
      mhBufN l hh g o cp _ (hE.below ((Below.refl _ _).alloc (Nat.le_refl _) _) (Nat.le_refl _)) (hc.below ((Below.refl _ _).alloc (Nat.le_refl _) _) hgl) hcp hlim
    clear hh hr hE hc
    generalize l.length = N at *
    go_enter Tryz.func308, Tryz.ntmps308
    go_wp2_with (go_at_call 367; (with_reducible refine (H.out _).mono ?_); rintro e w2 ⟨t, p, rfl, hb⟩; obtain ⟨hc, hf⟩ := bcell hb; have hz : w.heap.size < w2.heap.size := (by have := hb.size; simp at this; omega))
    have hrow : w2.heap[w.heap.size]? = some (.cells #[.int .u64 0, .string ⟨#[]⟩, .int .i64 0, .slice none 0 0] 213 (0, 0)) := (hb.block w.heap.size (by simp)).trans (heap_alloc_last w _)
    have h5 := row4 hrow (.int .u64 0) (.string ⟨#[]⟩) (.int .i64 0) (.slice none 0 0)
    have hb5 := below4 (below_under hb) (Nat.le_refl _) (.int .u64 0) (.string ⟨#[]⟩) (.int .i64 0) (.slice none 0 0)
    refine bodyPost_ret (v := .tuple #[.agg #[.int .u64 0, .string ⟨#[]⟩, .int .i64 0, .slice none 0 0], .iface t p]) (results308 _ _ w.heap.size (.int .u64 0) (.string ⟨#[]⟩) (.int .i64 0) (.slice none 0 0) (.iface t p) rfl rfl (by simp [World.cell?, h5]) (by simp [World.cell?, h5]) (by simp [World.cell?, h5]) (by simp [World.cell?, h5])) rfl ?_
    exact ⟨0, ⟨#[]⟩, 0, none, 0, 0, t, p, rfl, hb5⟩
  | some x =>
    obtain ⟨code, m, r⟩ := x
    have hrl : r ≠ l.length := by
      intro e
      rw [mhRead_head, hh] at hr
      simp [e] at hr
    have H : Hid (∀ ob, Calls Tryz.prog 367 #[.slice (some ⟨g, o, none⟩) l.length cp] (w.alloc ob) fun e w' => ∃ o2 cp2, e = .returned (.tuple #[.int .i64 r, .int .u64 code, .slice (some ⟨g, o2, none⟩) m cp2, .nilIface]) ∧ Below (w.alloc ob).heap.size (w.alloc ob) w') := Lib.hid fun ob =>
      mhBufY l code m r hh g o cp _ (hE.below ((Below.refl _ _).alloc (Nat.le_refl _) _) (Nat.le_refl _)) (hc.below ((Below.refl _ _).alloc (Nat.le_refl _) _) hgl) hcp hlim
    have e1 : ((l.length : Int) != (r : Int)) = true := by
      have : (l.length : Int) ≠ (r : Int) := by omega
      simpa using this
    clear hh hr hE hc hrl
    generalize l.length = N at *
    go_enter Tryz.func308, Tryz.ntmps308
    go_wp2_with (go_at_call 367; (with_reducible refine (H.out _).mono ?_); rintro e w2 ⟨o2, cp2, rfl, hb⟩; obtain ⟨hc, hf⟩ := bcell hb; have hz : w.heap.size < w2.heap.size := (by have := hb.size; simp at this; omega))
    have hrow : w2.heap[w.heap.size]? = some (.cells #[.int .u64 0, .string ⟨#[]⟩, .int .i64 0, .slice none 0 0] 213 (0, 0)) := (hb.block w.heap.size (by simp)).trans (heap_alloc_last w _)
    have h5 := row4 (row4 hrow (.int .u64 code) (.string ⟨#[]⟩) (.int .i64 m) (.slice (some ⟨g, o2, none⟩) m cp2)) (.int .u64 code) (.string ⟨#[]⟩) (.int .i64 m) (.slice (some ⟨g, o2, none⟩) m cp2)
    have hb5 := below4 (below4 (below_under hb) (Nat.le_refl _) (.int .u64 code) (.string ⟨#[]⟩) (.int .i64 m) (.slice (some ⟨g, o2, none⟩) m cp2)) (Nat.le_refl _) (.int .u64 code) (.string ⟨#[]⟩) (.int .i64 m) (.slice (some ⟨g, o2, none⟩) m cp2)
    refine bodyPost_ret (v := .tuple #[.agg #[.int .u64 code, .string ⟨#[]⟩, .int .i64 m, .slice (some ⟨g, o2, none⟩) m cp2], .iface 296 _]) (results308 _ _ w.heap.size (.int .u64 code) (.string ⟨#[]⟩) (.int .i64 m) (.slice (some ⟨g, o2, none⟩) m cp2) (.iface 296 _) rfl rfl (by simp [World.cell?, h5]) (by simp [World.cell?, h5]) (by simp [World.cell?, h5]) (by simp [World.cell?, h5])) rfl ?_
    exact ⟨code, ⟨#[]⟩, m, some ⟨g, o2, none⟩, m, cp2, 296, _, rfl, hb5⟩

set_option maxRecDepth 100000 in
set_option maxHeartbeats 4000000 in
theorem mhDecodeY (l : List UInt8) (code m : Nat) (hr : mhRead l = some (code, m)) (g o cp : Nat) (w : World) (hE : Errs w) (hc : At w g o l) (hcp : l.length ≤ cp) (hlim : l.length ≤ 1000000) :
    Calls Tryz.prog 262 #[.slice (some ⟨g, o, none⟩) l.length cp] w fun e w' => ∃ q, e = .returned (.tuple #[.pointer (some ⟨q, 0, none⟩), .nilIface]) ∧ w'.cell? ⟨q, 0, none⟩ = some (.int .u64 code) ∧ w'.cell? ⟨q, 2, none⟩ = some (.int .i64 m) ∧ Below w.heap.size w w' := by
  have H := Lib.hid (mhDecY l code m hr g o cp w hE hc hcp hlim)
  clear hr hE hc
  generalize l.length = N at *
  go_enter Tryz.func262, Tryz.ntmps262
  go_wp2_with (go_at_call 308; (with_reducible refine H.out.mono ?_); rintro e w2 ⟨o2, cp2, rfl, hb⟩)
  go_ret2
  exact ⟨w2.heap.size, rfl, by simp [go_sem], by simp [go_sem], hb.alloc hb.size _⟩

set_option maxRecDepth 100000 in
set_option maxHeartbeats 4000000 in
theorem mhDecodeN (l : List UInt8) (hr : mhRead l = none) (g o cp : Nat) (w : World) (hE : Errs w) (hc : At w g o l) (hl : 0 < l.length) (hcp : l.length ≤ cp) (hlim : l.length ≤ 1000000) :
    Calls Tryz.prog 262 #[.slice (some ⟨g, o, none⟩) l.length cp] w fun e w' => ∃ t p, e = .returned (.tuple #[.pointer none, .iface t p]) ∧ Below w.heap.size w w' := by
  have H := Lib.hid (mhDecN l hr g o cp w hE hc hl hcp hlim)
  clear hr hE hc hl
  generalize l.length = N at *
  go_enter Tryz.func262, Tryz.ntmps262
  go_wp2_with (go_at_call 308; (with_reducible refine H.out.mono ?_); rintro e w2 ⟨x0, x1, x2, pa, na, ca, t, p, rfl, hb⟩)
  go_ret2
  exact ⟨t, p, rfl, hb.alloc hb.size _⟩

set_option maxRecDepth 100000 in
set_option maxHeartbeats 4000000 in
theorem mhCastY (l : List UInt8) (code m : Nat) (hr : mhRead l = some (code, m)) (g o cp : Nat) (w : World) (hE : Errs w) (hc : At w g o l) (hcp : l.length ≤ cp) (hlim : l.length ≤ 1000000) :
    Calls Tryz.prog 271 #[.slice (some ⟨g, o, none⟩) l.length cp] w fun e w' => e = .returned (.tuple #[.slice (some ⟨g, o, none⟩) l.length cp, .nilIface]) ∧ Below w.heap.size w w' := by
  have H := Lib.hid (mhDecodeY l code m hr g o cp w hE hc hcp hlim)
  clear hr hE hc
  generalize l.length = N at *
  go_enter Tryz.func271, Tryz.ntmps271
  go_wp2_with (go_at_call 262; (with_reducible refine H.out.mono ?_); rintro e w2 ⟨q, rfl, _, _, hb⟩)
  go_ret2
  exact ⟨rfl, hb⟩

set_option maxRecDepth 100000 in
set_option maxHeartbeats 4000000 in
theorem mhCastN (l : List UInt8) (hr : mhRead l = none) (g o cp : Nat) (w : World) (hE : Errs w) (hc : At w g o l) (hl : 0 < l.length) (hcp : l.length ≤ cp) (hlim : l.length ≤ 1000000) :
    Calls Tryz.prog 271 #[.slice (some ⟨g, o, none⟩) l.length cp] w fun e w' => ∃ pa na ca t p, e = .returned (.tuple #[.slice pa na ca, .iface t p]) ∧ Below w.heap.size w w' := by
  have H := Lib.hid (mhDecodeN l hr g o cp w hE hc hl hcp hlim)
  clear hr hE hc hl
  generalize l.length = N at *
  go_enter Tryz.func271, Tryz.ntmps271
  go_wp2_with (go_at_call 262; (with_reducible refine H.out.mono ?_); rintro e w2 ⟨t, p, rfl, hb⟩)
  go_ret2
  exact ⟨_, _, _, t, p, rfl, hb.alloc hb.size _⟩

set_option maxRecDepth 100000 in
set_option maxHeartbeats 4000000 in
theorem val228Y (l : List UInt8) (h : mhOk l = true) (hlim : l.length ≤ 1000000) : ValY 228 l := by
  intro w g o cp hcp he hc
  cases hr : mhRead l with
  | none => rw [mhOk, hr] at h; cases h
  | some x =>
    obtain ⟨code, m⟩ := x
    have H := Lib.hid (mhDecodeY l code m hr g o cp w he.errs hc hcp hlim)
    clear hr he hc h
    generalize l.length = N at *
    go_enter Tryz.func228, Tryz.ntmps228
    go_wp2_with (go_at_call 262; (with_reducible refine H.out.mono ?_); rintro e w2 ⟨q, rfl, _, _, hb⟩)
    go_ret
    exact ⟨rfl, hb⟩
set_option maxRecDepth 100000 in
set_option maxHeartbeats 4000000 in
theorem val228N (l : List UInt8) (h : mhOk l = false) (hl : 0 < l.length) (hlim : l.length ≤ 1000000) : ValN 228 l := by
  intro w g o cp hcp he hc
  cases hr : mhRead l with
  | some x => rw [mhOk, hr] at h; cases h
  | none =>
    have H := Lib.hid (mhDecodeN l hr g o cp w he.errs hc hl hcp hlim)
    clear hr he hc h hl
    generalize l.length = N at *
    go_enter Tryz.func228, Tryz.ntmps228
    go_wp2_with (go_at_call 262; (with_reducible refine H.out.mono ?_); rintro e w2 ⟨t, p, rfl, hb⟩)
    go_ret
    exact ⟨t, p, rfl, hb⟩

set_option maxRecDepth 100000 in
set_option maxHeartbeats 4000000 in
theorem val234N0 (l : List UInt8) (hr : mhRead l = none) (hl : 0 < l.length) (hlim : l.length ≤ 1000000) : ValN 234 l := by
  intro w g o cp hcp he hc
  have H := Lib.hid (mhDecodeN l hr g o cp w he.errs hc hl hcp hlim)
  clear hr he hc hl
  generalize l.length = N at *
  go_enter Tryz.func234, Tryz.ntmps234
  go_wp2_with (first
    | (go_at_call 262; (with_reducible refine H.out.mono ?_); rintro e w2 ⟨t, p, rfl, hb⟩)
    | (go_at_call 52; (with_reducible refine (errorsNew _ _).mono ?_); rintro e w5 ⟨t5, p5, rfl, hb5⟩))
  go_ret
  exact ⟨t5, p5, rfl, hb.trans (hb5.mono hb.size)⟩
set_option maxRecDepth 100000 in
set_option maxHeartbeats 4000000 in
theorem val234Y (l : List UInt8) (code m : Nat) (hr : mhRead l = some (code, m)) (h : (code = 18 ∧ m = 32) ∨ code = 0) (hlim : l.length ≤ 1000000) : ValY 234 l := by
  intro w g o cp hcp he hc
  have H := Lib.hid (mhDecodeY l code m hr g o cp w he.errs hc hcp hlim)
  clear hr he hc
  generalize l.length = N at *
  rcases h with ⟨rfl, rfl⟩ | rfl
  all_goals
    go_enter Tryz.func234, Tryz.ntmps234
    go_wp2_with (go_at_call 262; (with_reducible refine H.out.mono ?_); rintro e w2 ⟨q, rfl, c0, c2, hb⟩)
    go_ret
    exact ⟨rfl, hb⟩
set_option maxRecDepth 100000 in
set_option maxHeartbeats 4000000 in
theorem val234N (l : List UInt8) (code m : Nat) (hr : mhRead l = some (code, m)) (h : ¬ ((code = 18 ∧ m = 32) ∨ code = 0)) (hlim : l.length ≤ 1000000) : ValN 234 l := by
  intro w g o cp hcp he hc
  have H := Lib.hid (mhDecodeY l code m hr g o cp w he.errs hc hcp hlim)
  clear hr he hc
  generalize l.length = N at *
  by_cases h18 : code = 18
  · have hm : m ≠ 32 := fun e => h (Or.inl ⟨h18, e⟩)
    subst h18
    have e1 : ((m : Int) != 32) = true := by
      have : (m : Int) ≠ 32 := by omega
      simpa using this
    clear h hm
    go_enter Tryz.func234, Tryz.ntmps234
    go_wp2_with (first
      | (go_at_call 262; (with_reducible refine H.out.mono ?_); rintro e w2 ⟨q, rfl, c0, c2, hb⟩)
      | (go_at_call 52; (with_reducible refine (errorsNew _ _).mono ?_); rintro e w5 ⟨t5, p5, rfl, hb5⟩))
    go_ret
    exact ⟨t5, p5, rfl, hb.trans (hb5.mono hb.size)⟩
  · have h0 : code ≠ 0 := fun e => h (Or.inr e)
    have e1 : ((code : Int) != 18) = true := by
      have : (code : Int) ≠ 18 := by omega
      simpa using this
    have e2 : ((code : Int) != 0) = true := by
      have : (code : Int) ≠ 0 := by omega
      simpa using this
    clear h h18 h0
    go_enter Tryz.func234, Tryz.ntmps234
    go_wp2_with (first
      | (go_at_call 262; (with_reducible refine H.out.mono ?_); rintro e w2 ⟨q, rfl, c0, c2, hb⟩)
      | (go_at_call 52; (with_reducible refine (errorsNew _ _).mono ?_); rintro e w5 ⟨t5, p5, rfl, hb5⟩))
    go_ret
    exact ⟨t5, p5, rfl, hb.trans (hb5.mono hb.size)⟩
end Go.Proofs.YtnpcmmjdojdmnaaGreatDoor
