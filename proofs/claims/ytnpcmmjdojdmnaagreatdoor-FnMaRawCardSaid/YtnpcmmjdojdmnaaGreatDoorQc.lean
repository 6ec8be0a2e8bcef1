/- Varints of numbers: their sizes and the bytes that are made (govarint.ToUvarint, CodeToVarint, ZZUvarint). The transcoders of the protocols, and small laws on new memory. Laws on append onto a row that the call itself made, from whatever source (a slice, nil, a text): as one operation of a walk, and as one step of a region that draws its order. -/
import Derived.Test.YtnpcmmjdojdmnaaGreatDoorShelf
import Derived.WalkKit
import Derived.WalkSpells
import Derived.WalkLawsBesides
import Derived.Lib.Hide
import Derived.Lib.Varint
import Derived.Lib.BitFns
import Derived.Lib.EndianMore
import Derived.Laws.IdiomCopy
import Derived.Test.YtnpcmmjdojdmnaaGreatDoorQa
import Derived.Deep.AppendSrc
import Derived.Deep.RegionLaw
namespace Go.Proofs.YtnpcmmjdojdmnaaGreatDoor
open Go Go.RowKit

/-- The slice v is new memory, from block B on, that holds the bytes l and no more. -/
def Fresh (B : Nat) (w : World) (v : Value) (l : List UInt8) : Prop :=
  ∃ g, B ≤ g ∧ g < w.heap.size ∧ v = .slice (some ⟨g, 0, none⟩) l.length l.length ∧ ∀ j (h : j < l.length), w.cell? ⟨g, j, none⟩ = some (.int .u8 (l[j]).toNat)

theorem Fresh.below {B B' : Nat} {w w' : World} {v : Value} {l : List UInt8} (h : Fresh B w v l) (hb : Below B' w w') (hB : w.heap.size ≤ B') : Fresh B w' v l := by
  obtain ⟨g, h1, h2, h3, h4⟩ := h
  exact ⟨g, h1, Nat.lt_of_lt_of_le h2 hb.size, h3, fun j hj => (hb.cell (p := ⟨g, j, none⟩) (by show g < B'; omega)).trans (h4 j hj)⟩
theorem Fresh.mono {B B' : Nat} {w : World} {v : Value} {l : List UInt8} (h : Fresh B w v l) (hB : B' ≤ B) : Fresh B' w v l := by
  obtain ⟨g, h1, h2⟩ := h
  exact ⟨g, Nat.le_trans hB h1, h2⟩

theorem ret_int {k : IntKind} {a b : Int} (h : a = b) : Ending.returned (.int k a) = .returned (.int k b) := by rw [h]

theorem bitLen_zero : Lib.bitLen 0 = 0 := by decide
theorem bitLen_one_le {x : Nat} (h0 : x ≠ 0) (h : x < 2 ^ 64) : 1 ≤ Lib.bitLen x := by rw [Lib.bitLen_half x h0 h]; omega
theorem bitLen_small : ∀ x : Fin 128, Lib.bitLen x.val ≤ 7 := by decide +kernel

/-- How many bytes a varint has. -/
theorem uvarint_len : ∀ (x : Nat), x < 2 ^ 64 → (Lib.uvarint x).length = if Lib.bitLen x = 0 then 1 else (Lib.bitLen x + 6) / 7 := by
  intro x
  induction x using Nat.strongRecOn with
  | _ x ih =>
    intro hx
    by_cases h : x < 128
    · rw [Lib.uvarint_small h]
      by_cases h0 : x = 0
      · subst h0; simp [bitLen_zero]
      · have h1 := bitLen_one_le h0 hx
        have h2 : Lib.bitLen x ≤ 7 := bitLen_small ⟨x, h⟩
        rw [if_neg (by omega)]
        show 1 = _
        omega
    · have hs : Lib.bitLen x = 7 + Lib.bitLen (x / 2 ^ 7) := Lib.bitLen_shift 7 x (by omega) hx
      have e : x / 2 ^ 7 = x / 128 := rfl
      rw [e] at hs
      have hx' : x / 128 < 2 ^ 64 := by omega
      rw [Lib.uvarint_big (by omega), List.length_cons, ih (x / 128) (by omega) hx', if_neg (by omega : ¬ Lib.bitLen x = 0), hs]
      have h1 := bitLen_one_le (x := x / 128) (by omega) hx'
      rw [if_neg (by omega)]
      omega

set_option maxRecDepth 100000 in
set_option maxHeartbeats 4000000 in
theorem uvarintSize (x : Nat) (hx : x < 18446744073709551616) (w : World) :
    Calls Tryz.prog 147 #[.int .u64 x] w fun e w' => e = .returned (.int .i64 (Lib.uvarint x).length) ∧ w = w' := by
  have hlen := uvarint_len x (by omega)
  have hle := Lib.uvarint_length64 hx
  have HC : ∀ wx, Calls Tryz.prog 187 #[.int .u64 (x : Int)] wx (fun e w' => e = .returned (.int .i64 (Lib.bitLen x)) ∧ wx = w') := by
    intro wx
    have h := Tryz.bits_Len64 (x : Int) wx (by omega) (by omega)
    rw [Int.toNat_natCast] at h
    exact h.mono fun e w' ⟨a, b⟩ => ⟨a, b.symm⟩
  obtain ⟨n, hn⟩ : ∃ n, n = Lib.bitLen x := ⟨_, rfl⟩
  rw [← hn] at hlen HC
  clear hn
  obtain ⟨k, hk⟩ : ∃ k, k = (Lib.uvarint x).length := ⟨_, rfl⟩
  rw [← hk] at hlen hle ⊢
  clear hk
  have hn70 : n ≤ 70 := by
    by_cases h : n = 0
    · omega
    · rw [if_neg h] at hlen; omega
  have HL := Lib.hid hlen; clear hlen
  obtain ⟨q, r, hq, hr⟩ : ∃ q r : Nat, n = 7 * q + r ∧ r < 7 := ⟨n / 7, n % 7, by omega, by omega⟩
  subst hq
  have d1 : (((7 * q + r : Nat)) : Int) / 7 = q := by omega
  have d2 : (((7 * q + r : Nat)) : Int) % 7 = r := by omega
  have hq10 : q ≤ 10 := by omega
  by_cases hr0 : r = 0
  · subst hr0
    by_cases hq0 : q = 0
    · subst hq0
      go_enter Tryz.func147, Tryz.ntmps147
      go_wp2_with (go_at_call 187; refine (HC _).mono ?_; rintro e w1 ⟨rfl, rfl⟩)
      go_ret
      exact ⟨by have := HL.out; simp at this; rw [this]; rfl, rfl⟩
    · have d3 : ((q : Int) == 0) = false := by simp; omega
      go_enter Tryz.func147, Tryz.ntmps147
      go_wp2_with (go_at_call 187; refine (HC _).mono ?_; rintro e w1 ⟨rfl, rfl⟩)
      go_ret
      exact ⟨ret_int (by have := HL.out; rw [if_neg (by omega)] at this; omega), rfl⟩
  · have d3 : 0 < (r : Int) := by omega
    go_enter Tryz.func147, Tryz.ntmps147
    go_wp2_with (go_at_call 187; refine (HC _).mono ?_; rintro e w1 ⟨rfl, rfl⟩)
    go_ret
    exact ⟨ret_int (by have := HL.out; rw [if_neg (by omega)] at this; omega), rfl⟩

theorem info5 : (Tryz.prog.info? 5).map (fun i => (i.zero, i.size, i.bytes)) = some (some (.int .u8 0), 1, 1) := by kernel_rfl

theorem byteCells_getElem (l : List UInt8) (j : Nat) (h : j < (Lib.byteCells l).length) (h' : j < l.length) : (Lib.byteCells l)[j] = .int .u8 (l[j]).toNat := by
  simp [Lib.byteCells]

set_option maxRecDepth 100000 in
set_option maxHeartbeats 4000000 in
/-- govarint.ToUvarint: new memory that holds the varint. -/
theorem toUvarint (x : Nat) (hx : x < 18446744073709551616) (w : World) :
    Calls Tryz.prog 72 #[.int .u64 x] w fun e w' => ∃ v, e = .returned v ∧ Fresh w.heap.size w' v (Lib.uvarint x) ∧ Below w.heap.size w w' := by
  obtain ⟨i0, hi, hz0, hz1, hz2⟩ := info_parts info5
  have hle := Lib.uvarint_length64 hx
  have hpos := Lib.uvarint_pos x
  go_enter Tryz.func72, Tryz.ntmps72
  go_wp2_with (first
    | (go_at_call 147; refine (uvarintSize x hx _).mono ?_; rintro e w1 ⟨rfl, rfl⟩)
    | (at_make; refine wpList_make_full _ rfl (.tmp 6) (.tmp 6) 22 rfl w.heap.size 5 i0 (.int .u8 0) 1 Tryz.underlying22 hi hz0 hz1 .i64 .i64 _ _ (Lib.uvarint x).length rfl rfl rfl rfl ?c1 ?c2 (Nat.le_refl _) ?_))
  case c1 => rw [hz2]; omega
  case c2 => unfold maxLen; omega
  intro w1 hown hgrow
  have hsz : w.heap.size < w1.heap.size := by
    have := hown.lt w.heap.size rfl
    exact this.2
  have hbel : Below w.heap.size w w1 := ⟨hgrow.os, hgrow.tape, hgrow.output, hgrow.size, fun k hk => hgrow.block k hk (by simp)⟩
  have hcell : ∀ j, j < (Lib.uvarint x).length → (w1.cell? ⟨w.heap.size, 0 + j, none⟩).isSome = true ∧ w1.frozen? ⟨w.heap.size, 0 + j, none⟩ = false := by
    intro j hj
    rw [Nat.zero_add]
    refine ⟨?_, hown.frozenAt j⟩
    rw [hown.cellAt j (by omega)]
    rw [List.getElem?_eq_getElem (by rw [hown.1]; omega)]; rfl
  have hP := Tryz.binary_PutUvarint w.heap.size 0 (Lib.uvarint x).length (Lib.uvarint x).length x hx w1 (Nat.le_refl _) hcell
  have hend : Fresh w.heap.size (w1.setCells w.heap.size 0 (Lib.byteCells (Lib.uvarint x))) (.slice (some ⟨w.heap.size, 0, none⟩) (Lib.uvarint x).length (Lib.uvarint x).length) (Lib.uvarint x) ∧ Below w.heap.size w (w1.setCells w.heap.size 0 (Lib.byteCells (Lib.uvarint x))) := by
    have hb2 : Below w.heap.size w1 (w1.setCells w.heap.size 0 (Lib.byteCells (Lib.uvarint x))) := Lib.below_setCells_w (Nat.le_refl _) _ _ _
    refine ⟨⟨w.heap.size, Nat.le_refl _, Nat.lt_of_lt_of_le hsz hb2.size, rfl, fun j hj => ?_⟩, hbel.trans hb2⟩
    have hl : (Lib.byteCells (Lib.uvarint x)).length = (Lib.uvarint x).length := by simp [Lib.byteCells]
    have := World.cell?_setCells_in w.heap.size (Lib.byteCells (Lib.uvarint x)) 0 w1 (fun j hj => (hcell j (by omega)).1) j (by omega)
    rw [Nat.zero_add] at this
    rw [this, byteCells_getElem _ _ _ hj]
  have HE := Lib.hid hend; clear hend hown hgrow hcell
  have HP := Lib.hid hP; clear hP
  go_wp2_with (go_at_call 148; refine (HP.out).mono ?_; rintro e w2 ⟨rfl, rfl⟩)
  go_ret
  exact ⟨_, rfl, HE.out.1, HE.out.2⟩

set_option maxRecDepth 100000 in
set_option maxHeartbeats 4000000 in
theorem codeToVarint (x : Nat) (hx : x ≤ 2147483647) (w : World) :
    Calls Tryz.prog 171 #[.int .i64 x] w fun e w' => ∃ v, e = .returned v ∧ Fresh w.heap.size w' v (Lib.uvarint x) ∧ Below w.heap.size w w' := by
  go_enter Tryz.func171, Tryz.ntmps171
  go_wp2_with (go_at_call 72; refine (toUvarint x (by omega) _).mono ?_; rintro e w2 ⟨v, rfl, hf, hb⟩)
  go_ret
  exact ⟨_, rfl, hf, hb⟩

set_option maxRecDepth 100000 in
set_option maxHeartbeats 4000000 in
theorem zzUvarint (x : Nat) (hx : x < 18446744073709551616) (w : World) :
    Calls Tryz.prog 49 #[.int .u64 x] w fun e w' => ∃ v, e = .returned v ∧ Fresh w.heap.size w' v (Lib.uvarint x) ∧ Below w.heap.size w w' := by
  go_enter Tryz.func49, Tryz.ntmps49
  go_wp2_with (go_at_call 72; refine (toUvarint x hx _).mono ?_; rintro e w2 ⟨v, rfl, hf, hb⟩)
  go_ret
  exact ⟨_, rfl, hf, hb⟩
end Go.Proofs.YtnpcmmjdojdmnaaGreatDoor
namespace Go.Proofs.YtnpcmmjdojdmnaaGreatDoor
open Go Go.RowKit

theorem bcell {W w1 : World} (hb : Below W.heap.size W w1) : (∀ b o, b < W.heap.size → w1.cell? ⟨b, o, none⟩ = W.cell? ⟨b, o, none⟩) ∧ (∀ b o, b < W.heap.size → w1.frozen? ⟨b, o, none⟩ = W.frozen? ⟨b, o, none⟩) :=
  ⟨fun b o h => hb.cell (p := ⟨b, o, none⟩) h, fun b o h => hb.frozen (p := ⟨b, o, none⟩) h⟩

theorem Fresh.setCell {b : Nat} {w : World} {v : Value} {l : List UInt8} (h : Fresh (b + 1) w v l) (o : Nat) (x : Value) : Fresh (b + 1) (w.setCell ⟨b, o, none⟩ x) v l := by
  obtain ⟨g, h1, h2, h3, h4⟩ := h
  refine ⟨g, h1, by simpa [World.setCell] using h2, h3, fun j hj => ?_⟩
  rw [World.cell?_of_block (w := w) (Below.heap_setCell w ⟨b, o, none⟩ x g (by show g ≠ b; omega))]
  exact h4 j hj

theorem Fresh.set6 {b : Nat} {w : World} {v : Value} {l : List UInt8} (h : Fresh (b + 1) w v l) (x0 x1 x2 x3 x4 x5 : Value) :
    Fresh b ((((((w.setCell ⟨b, 0, none⟩ x0).setCell ⟨b, 1, none⟩ x1).setCell ⟨b, 2, none⟩ x2).setCell ⟨b, 3, none⟩ x3).setCell ⟨b, 4, none⟩ x4).setCell ⟨b, 5, none⟩ x5) v l :=
  ((((((h.setCell 0 x0).setCell 1 x1).setCell 2 x2).setCell 3 x3).setCell 4 x4).setCell 5 x5).mono (Nat.le_succ _)

theorem below_set6 {b : Nat} {w0 w : World} (h : Below b w0 w) (x0 x1 x2 x3 x4 x5 : Value) :
    Below b w0 ((((((w.setCell ⟨b, 0, none⟩ x0).setCell ⟨b, 1, none⟩ x1).setCell ⟨b, 2, none⟩ x2).setCell ⟨b, 3, none⟩ x3).setCell ⟨b, 4, none⟩ x4).setCell ⟨b, 5, none⟩ x5) :=
  (((((h.setCell (Nat.le_refl _) _).setCell (Nat.le_refl _) _).setCell (Nat.le_refl _) _).setCell (Nat.le_refl _) _).setCell (Nat.le_refl _) _).setCell (Nat.le_refl _) _

theorem below_under {w w2 : World} {o : Obj} (hb : Below (w.alloc o).heap.size (w.alloc o) w2) : Below w.heap.size w w2 :=
  ((Below.refl _ _).alloc (Nat.le_refl _) _).trans (hb.mono (by simp))

/-- A transcoder of three functions; the last one may be nil. -/
abbrev tcF (a b : Nat) : Value := .iface 177 (.agg #[.func (.func a) #[] #[], .func (.func b) #[] #[], .nilFunc])
abbrev tcG (a b c : Nat) : Value := .iface 177 (.agg #[.func (.func a) #[] #[], .func (.func b) #[] #[], .func (.func c) #[] #[]])

/-- The transcoder of a protocol. -/
def tcv (c : Int) : Value := if c = 4 then tcF 199 200 else if c = 6 then tcF 201 202 else if c = 33 then tcF 201 202 else if c = 41 then tcF 206 207 else if c = 42 then tcG 208 209 210 else if c = 43 then tcG 211 212 213 else if c = 53 then tcG 203 204 205 else if c = 54 then tcG 203 204 205 else if c = 55 then tcG 203 204 205 else if c = 56 then tcG 203 204 205 else if c = 132 then tcF 201 202 else if c = 273 then tcF 201 202 else if c = 400 then tcG 235 236 237 else if c = 421 then tcG 232 233 234 else if c = 444 then tcG 214 215 216 else if c = 445 then tcG 217 218 219 else if c = 446 then tcG 220 221 222 else if c = 447 then tcG 223 224 225 else if c = 449 then tcG 203 204 205 else if c = 466 then tcG 226 227 228 else if c = 481 then tcG 229 230 231 else if c = 777 then tcG 238 239 240 else .nilIface

theorem tc172 (w : World) : Calls Tryz.prog 172 #[] w fun e w' => e = .returned (tcF 199 200) ∧ w = w' := by
  go_enter Tryz.func172, Tryz.ntmps172
  go_wp2
  go_ret
  exact ⟨rfl, rfl⟩

theorem tc173 (w : World) : Calls Tryz.prog 173 #[] w fun e w' => e = .returned (tcF 201 202) ∧ w = w' := by
  go_enter Tryz.func173, Tryz.ntmps173
  go_wp2
  go_ret
  exact ⟨rfl, rfl⟩

theorem tc174 (w : World) : Calls Tryz.prog 174 #[] w fun e w' => e = .returned (tcG 203 204 205) ∧ w = w' := by
  go_enter Tryz.func174, Tryz.ntmps174
  go_wp2
  go_ret
  exact ⟨rfl, rfl⟩

theorem tc175 (w : World) : Calls Tryz.prog 175 #[] w fun e w' => e = .returned (tcF 206 207) ∧ w = w' := by
  go_enter Tryz.func175, Tryz.ntmps175
  go_wp2
  go_ret
  exact ⟨rfl, rfl⟩

theorem tc176 (w : World) : Calls Tryz.prog 176 #[] w fun e w' => e = .returned (tcG 208 209 210) ∧ w = w' := by
  go_enter Tryz.func176, Tryz.ntmps176
  go_wp2
  go_ret
  exact ⟨rfl, rfl⟩

theorem tc177 (w : World) : Calls Tryz.prog 177 #[] w fun e w' => e = .returned (tcG 211 212 213) ∧ w = w' := by
  go_enter Tryz.func177, Tryz.ntmps177
  go_wp2
  go_ret
  exact ⟨rfl, rfl⟩

theorem tc178 (w : World) : Calls Tryz.prog 178 #[] w fun e w' => e = .returned (tcG 214 215 216) ∧ w = w' := by
  go_enter Tryz.func178, Tryz.ntmps178
  go_wp2
  go_ret
  exact ⟨rfl, rfl⟩

theorem tc179 (w : World) : Calls Tryz.prog 179 #[] w fun e w' => e = .returned (tcG 217 218 219) ∧ w = w' := by
  go_enter Tryz.func179, Tryz.ntmps179
  go_wp2
  go_ret
  exact ⟨rfl, rfl⟩

theorem tc180 (w : World) : Calls Tryz.prog 180 #[] w fun e w' => e = .returned (tcG 220 221 222) ∧ w = w' := by
  go_enter Tryz.func180, Tryz.ntmps180
  go_wp2
  go_ret
  exact ⟨rfl, rfl⟩

theorem tc181 (w : World) : Calls Tryz.prog 181 #[] w fun e w' => e = .returned (tcG 223 224 225) ∧ w = w' := by
  go_enter Tryz.func181, Tryz.ntmps181
  go_wp2
  go_ret
  exact ⟨rfl, rfl⟩

theorem tc182 (w : World) : Calls Tryz.prog 182 #[] w fun e w' => e = .returned (tcG 226 227 228) ∧ w = w' := by
  go_enter Tryz.func182, Tryz.ntmps182
  go_wp2
  go_ret
  exact ⟨rfl, rfl⟩

theorem tc183 (w : World) : Calls Tryz.prog 183 #[] w fun e w' => e = .returned (tcG 229 230 231) ∧ w = w' := by
  go_enter Tryz.func183, Tryz.ntmps183
  go_wp2
  go_ret
  exact ⟨rfl, rfl⟩

theorem tc184 (w : World) : Calls Tryz.prog 184 #[] w fun e w' => e = .returned (tcG 232 233 234) ∧ w = w' := by
  go_enter Tryz.func184, Tryz.ntmps184
  go_wp2
  go_ret
  exact ⟨rfl, rfl⟩

theorem tc185 (w : World) : Calls Tryz.prog 185 #[] w fun e w' => e = .returned (tcG 235 236 237) ∧ w = w' := by
  go_enter Tryz.func185, Tryz.ntmps185
  go_wp2
  go_ret
  exact ⟨rfl, rfl⟩

theorem tc186 (w : World) : Calls Tryz.prog 186 #[] w fun e w' => e = .returned (tcG 238 239 240) ∧ w = w' := by
  go_enter Tryz.func186, Tryz.ntmps186
  go_wp2
  go_ret
  exact ⟨rfl, rfl⟩

end Go.Proofs.YtnpcmmjdojdmnaaGreatDoor
namespace Go.Proofs.YtnpcmmjdojdmnaaGreatDoor
open Go Go.RowKit

section
variable {P : Program} (w : World)

theorem run_append_src_own (base : Nat) (t tx ty e : TypeId) (i : TypeInfo) (z : Value) (size bytes : Nat) (ht : P.underlying t = some (.slice e)) (hi : P.info? e = some i) (hz : i.zero = some z)
    (hsize : i.size = size) (hby : i.bytes = bytes) (hzs : z.cells.size = size)
    (g n cap : Nat) (xs : List Value) (hown : w.ownsRow base e size (.slice (some ⟨g, 0, none⟩) n cap) n xs)
    (x : Value) (m : Nat) (news : List Value) (hs : Src P size tx x m news w)
    (h63 : n + m ≤ maxLen) (hbytes : (n + m) * bytes ≤ 140737488355328) (hbase : base ≤ w.heap.size) :
    ∃ g' cap' w', (Builtin.append_ #[t, tx] ty #[.slice (some ⟨g, 0, none⟩) n cap, x]).run P w = .ok (.slice (some ⟨g', 0, none⟩) (n + m) cap') w' ∧
      w'.ownsRow base e size (.slice (some ⟨g', 0, none⟩) (n + m) cap') (n + m) (xs ++ news) ∧ w.grownBy w' (some g) ∧ (g' = g ∨ g' = w.heap.size) := by
  subst hsize
  subst hby
  have hl := hs.newsLen
  have hlen : (xs ++ news).length = (n + m) * i.size := by rw [List.length_append, hown.1, hl, Nat.add_mul]
  have holds : ∀ j u, xs[j]? = some u → w.cell? ((⟨g, 0, none⟩ : Addr).add j) = some u := hown.cells (g := g) rfl
  have hown' := hown
  rcases hown.2 with ⟨h, _⟩ | ⟨g', cap', cur, h, hbg, hg, hnc, hcm, hcs, htake⟩
  · simp at h
  · simp only [Value.slice.injEq, Option.some.injEq, Addr.mk.injEq, and_true, true_and] at h
    obtain ⟨rfl, rfl⟩ := h
    by_cases hroom : n + m ≤ cap
    · have hfit : n * i.size + news.length ≤ cur.size := by rw [hl, hcs, ← Nat.add_mul]; exact Nat.mul_le_mul_right _ hroom
      have hst := run_storeCells_at P g (n * i.size) e news 0 cur w hg (by simpa using hfit) hs.one
      simp only [Nat.add_zero] at hst
      have hr : (Builtin.append_ #[t, tx] ty #[.slice (some ⟨g, 0, none⟩) n cap, x]).run P w = .ok (.slice (some ⟨g, 0, none⟩) (n + m) cap) (w.setRow g (cur.toList.take (n * i.size) ++ news ++ cur.toList.drop (n * i.size + news.length)).toArray) := by
        rcases hs.kind with ⟨e', hk⟩ | hk <;> simp [Builtin.append_, run_underlying ht, run_underlying hk, sizeOf, typeInfo, hi, hs.len, hroom, hs.cells, Addr.add_lit, hst]
      refine ⟨_, _, _, hr, ⟨hlen, .inr ⟨g, cap, _, rfl, hbg, setRow_heap w g cur _ e _ hg, hroom, hcm, ?_, ?_⟩⟩, ⟨rfl, rfl, rfl, by simp, fun k _ hk => setRow_other w g k _ (fun e => hk (by simp [e]))⟩, .inl rfl⟩
      · simp only [List.size_toArray, List.length_append, List.length_take, List.length_drop, Array.length_toList]
        omega
      · rw [htake, ← hlen]
        exact List.take_left
    · have hold : (Builtin.firstCells i.size n (.slice (some ⟨g, 0, none⟩) n cap)).run P w.drew = .ok xs.toArray w.drew := run_firstCells_some w.drew i.size n ⟨g, 0, none⟩ n cap xs hown.1 (by simpa using holds)
      have hsm : n + m ≤ 9223372036854775807 := by simp only [maxLen] at h63; omega
      have hr := run_append_grow_src (P := P) w t tx ty e i z ht hi hz (some ⟨g, 0, none⟩) n cap xs hold x m news hs (by omega) (by omega) (growslice_fits (by omega) hbytes)
      have hge := grownCap_ge w (n + m) cap e
      have hcm' : grownCap w (n + m) cap e ≤ maxLen := grownCap_le_maxLen w (n + m) cap e h63
      refine ⟨_, _, _, hr, ⟨hlen, .inr ⟨w.heap.size, _, _, rfl, hbase, heap_alloc_new w.drew _, hge, hcm', ?_, ?_⟩⟩, ⟨rfl, rfl, rfl, by simp, fun k hk _ => Below.heap_alloc w.drew _ k hk⟩, .inr rfl⟩
      · simp only [Array.size_append, List.size_toArray, List.length_append, size_zeroCells, hzs, hown.1, hl, ← Nat.add_mul]
        congr 1
        omega
      · simp only [Array.toList_append]
        rw [← hlen]
        exact List.take_left

theorem wp_append_src_own {o : Oper} {a : Act} {K : Act → World → Prop} {Q : Exit → Act → World → Prop} (s xo : Operand) (t tx : TypeId)
    (ho : o.op = .call { callee := .builtin .append, args := #[s, xo], argTypes := #[t, tx] })
    (base : Nat) (e : TypeId) (i : TypeInfo) (z : Value) (size bytes : Nat) (ht : P.underlying t = some (.slice e)) (hi : P.info? e = some i) (hz : i.zero = some z)
    (hsize : i.size = size) (hby : i.bytes = bytes) (hzs : z.cells.size = size)
    (g n cap : Nat) (xs : List Value) (hsv : a.eval s = .slice (some ⟨g, 0, none⟩) n cap) (hown : w.ownsRow base e size (.slice (some ⟨g, 0, none⟩) n cap) n xs)
    (x : Value) (hx : a.eval xo = x) (m : Nat) (news : List Value) (hs : Src P size tx x m news w)
    (h63 : n + m ≤ maxLen) (hbytes : (n + m) * bytes ≤ 140737488355328) (hbase : base ≤ w.heap.size)
    (h : ∀ g' cap' w', w'.ownsRow base e size (.slice (some ⟨g', 0, none⟩) (n + m) cap') (n + m) (xs ++ news) → w.grownBy w' (some g) → (g' = g ∨ g' = w.heap.size) → K (a.put o.dst (.slice (some ⟨g', 0, none⟩) (n + m) cap')) w') : o.wp P a w K Q := by
  obtain ⟨g', cap', w', hr, h2, h3, h4⟩ := run_append_src_own (P := P) w base t tx o.type e i z size bytes ht hi hz hsize hby hzs g n cap xs hown x m news hs h63 hbytes hbase
  unfold Oper.wp execOp
  simp only [ho, resolve, invoke, builtin, Sem.run_bind, Sem.run_pure, Result.andThen_ok, List.map_toArray, List.map_cons, List.map_nil, hsv, hx, hr]
  exact h g' cap' w' h2 h3 h4

theorem wpList_append_src_own {ops : Array Oper} {rest : List Oper} {o : Oper} {a : Act} {Q : Exit → Act → World → Prop} (hgd : o.guard = none) (s xo : Operand) (t tx : TypeId)
    (ho : o.op = .call { callee := .builtin .append, args := #[s, xo], argTypes := #[t, tx] })
    (base : Nat) (e : TypeId) (i : TypeInfo) (z : Value) (size bytes : Nat) (ht : P.underlying t = some (.slice e)) (hi : P.info? e = some i) (hz : i.zero = some z)
    (hsize : i.size = size) (hby : i.bytes = bytes) (hzs : z.cells.size = size)
    (g n cap : Nat) (xs : List Value) (hsv : a.eval s = .slice (some ⟨g, 0, none⟩) n cap) (hown : w.ownsRow base e size (.slice (some ⟨g, 0, none⟩) n cap) n xs)
    (x : Value) (hx : a.eval xo = x) (m : Nat) (news : List Value) (hs : Src P size tx x m news w)
    (h63 : n + m ≤ maxLen) (hbytes : (n + m) * bytes ≤ 140737488355328) (hbase : base ≤ w.heap.size)
    (h : ∀ g' cap' w', w'.ownsRow base e size (.slice (some ⟨g', 0, none⟩) (n + m) cap') (n + m) (xs ++ news) → w.grownBy w' (some g) → (g' = g ∨ g' = w.heap.size) → wpList P ops Q rest (a.put o.dst (.slice (some ⟨g', 0, none⟩) (n + m) cap')) w') : wpList P ops Q (o :: rest) a w :=
  wpList_plain hgd fun _ hK => wp_append_src_own w s xo t tx ho base e i z size bytes ht hi hz hsize hby hzs g n cap xs hsv hown x hx m news hs h63 hbytes hbase fun g' cap' w' h2 h3 h4 => hK _ _ (h g' cap' w' h2 h3 h4)

theorem step_append_src_own {ops : Array Oper} {o : Oper} {a : Act} {K : Act → World → Prop} {Q : Exit → Act → World → Prop} {E : Prop} (hgd : o.guard = none) (s xo : Operand) (t tx : TypeId)
    (ho : o.op = .call { callee := .builtin .append, args := #[s, xo], argTypes := #[t, tx] })
    (base : Nat) (e : TypeId) (i : TypeInfo) (z : Value) (size bytes : Nat) (ht : P.underlying t = some (.slice e)) (hi : P.info? e = some i) (hz : i.zero = some z)
    (hsize : i.size = size) (hby : i.bytes = bytes) (hzs : z.cells.size = size)
    (g n cap : Nat) (xs : List Value) (hsv : a.eval s = .slice (some ⟨g, 0, none⟩) n cap) (hown : w.ownsRow base e size (.slice (some ⟨g, 0, none⟩) n cap) n xs)
    (x : Value) (hx : a.eval xo = x) (m : Nat) (news : List Value) (hs : Src P size tx x m news w)
    (h63 : n + m ≤ maxLen) (hbytes : (n + m) * bytes ≤ 140737488355328) (hbase : base ≤ w.heap.size)
    (h : ∀ g' cap' w', w'.ownsRow base e size (.slice (some ⟨g', 0, none⟩) (n + m) cap') (n + m) (xs ++ news) → w.grownBy w' (some g) → (g' = g ∨ g' = w.heap.size) → K (a.put o.dst (.slice (some ⟨g', 0, none⟩) (n + m) cap')) w') :
    if Region.wanted o (yielded ops a.tmps) = true then Oper.wp P o a w K Q else E := by
  have hw : Region.wanted o (yielded ops a.tmps) = true := by simp [Region.wanted, hgd]
  rw [if_pos hw]
  exact wp_append_src_own w s xo t tx ho base e i z size bytes ht hi hz hsize hby hzs g n cap xs hsv hown x hx m news hs h63 hbytes hbase h
end

/-- The bytes l stand at the address p (none: there are none). -/
def BytesAt (w : World) (p : Option Addr) (l : List UInt8) : Prop :=
  (p = none → l = []) ∧ ∀ a, p = some a → ∀ j (h : j < l.length), w.cell? (a.add j) = some (.int .u8 (l[j]).toNat)

def byteVals (l : List UInt8) : List Value := l.map fun b => Value.int .u8 b.toNat
theorem byteVals_length (l : List UInt8) : (byteVals l).length = l.length := by simp [byteVals]
theorem byteVals_one (l : List UInt8) : ∀ u ∈ byteVals l, u.oneCell' = true := by
  intro u hu
  obtain ⟨_, _, rfl⟩ := List.mem_map.1 hu
  rfl
theorem byteVals_get {l : List UInt8} {j : Nat} {u : Value} (h : (byteVals l)[j]? = some u) : ∃ hj : j < l.length, u = .int .u8 (l[j]).toNat := by
  have hj := (List.getElem?_eq_some_iff.1 h).1
  rw [byteVals_length] at hj
  refine ⟨hj, ?_⟩
  simp [byteVals, hj] at h
  exact h.symm

theorem BytesAt.src {P : Program} {w : World} {p : Option Addr} {l : List UInt8} {t e' : TypeId} (hk : P.underlying t = some (.slice e')) (h : BytesAt w p l) (c : Nat) : Src P 1 t (.slice p l.length c) l.length (byteVals l) w := by
  cases p with
  | none =>
    obtain rfl := h.1 rfl
    exact Src.ofNil w hk c
  | some a =>
    refine Src.ofSlice w hk a l.length c (byteVals l) (by rw [byteVals_length]; omega) (fun j u hu => ?_) (byteVals_one l)
    obtain ⟨hj, rfl⟩ := byteVals_get hu
    exact h.2 a rfl j hj
theorem BytesAt.below {B : Nat} {w w' : World} {p : Option Addr} {l : List UInt8} (h : BytesAt w p l) (hb : Below B w w') (hp : ∀ a, p = some a → l ≠ [] → a.block < B) : BytesAt w' p l := by
  refine ⟨h.1, fun a ha j hj => ?_⟩
  rw [hb.cell (p := a.add j) (by
    have := hp a ha (by intro e; subst e; simp at hj)
    unfold Addr.add; split <;> exact this)]
  exact h.2 a ha j hj
theorem BytesAt.lt {w : World} {p : Option Addr} {l : List UInt8} (h : BytesAt w p l) : ∀ a, p = some a → l ≠ [] → a.block < w.heap.size := by
  intro a ha hl
  have h0 := h.2 a ha 0 (List.length_pos_iff.2 hl)
  have := World.block_lt_of_cell? w _ h0
  unfold Addr.add at this
  simpa using this

/-- A list of cells that stand in a world and may be written: block, place, value. -/
def Has (w : World) (L : List (Nat × Nat × Value)) : Prop := ∀ x ∈ L, w.cell? ⟨x.1, x.2.1, none⟩ = some x.2.2 ∧ w.frozen? ⟨x.1, x.2.1, none⟩ = false

theorem Has.cell {w : World} {L : List (Nat × Nat × Value)} (h : Has w L) (i : Nat) {b o : Nat} {v : Value} (hi : L[i]? = some (b, o, v)) : w.cell? ⟨b, o, none⟩ = some v := (h _ (List.mem_of_getElem? hi)).1
theorem Has.free {w : World} {L : List (Nat × Nat × Value)} (h : Has w L) (i : Nat) {b o : Nat} {v : Value} (hi : L[i]? = some (b, o, v)) : w.frozen? ⟨b, o, none⟩ = false := (h _ (List.mem_of_getElem? hi)).2
theorem Has.lt {w : World} {L : List (Nat × Nat × Value)} (h : Has w L) {x : Nat × Nat × Value} (hx : x ∈ L) : x.1 < w.heap.size := World.block_lt_of_cell? w _ (h x hx).1
theorem Has.grown {w w' : World} {L : List (Nat × Nat × Value)} {row : Option Nat} (h : Has w L) (hg : w.grownBy w' row) (hne : ∀ x ∈ L, some x.1 ≠ row) : Has w' L := fun x hx =>
  ⟨(World.cell?_of_block (hg.block x.1 (h.lt hx) (hne x hx))).trans (h x hx).1, (World.frozen?_of_block (hg.block x.1 (h.lt hx) (hne x hx))).trans (h x hx).2⟩
theorem Has.below {B : Nat} {w w' : World} {L : List (Nat × Nat × Value)} (h : Has w L) (hb : Below B w w') (hB : ∀ x ∈ L, x.1 < B) : Has w' L := fun x hx =>
  ⟨(hb.cell (p := ⟨x.1, x.2.1, none⟩) (hB x hx)).trans (h x hx).1, (hb.frozen (p := ⟨x.1, x.2.1, none⟩) (hB x hx)).trans (h x hx).2⟩
theorem Has.belowS {w w' : World} {L : List (Nat × Nat × Value)} (h : Has w L) (hb : Below w.heap.size w w') : Has w' L := h.below hb fun _ hx => h.lt hx
theorem Has.alloc {w : World} {L : List (Nat × Nat × Value)} (h : Has w L) (o : Obj) : Has (w.alloc o) L := h.belowS ((Below.refl _ _).alloc (Nat.le_refl _) o)
theorem Has.drew {w : World} {L : List (Nat × Nat × Value)} (h : Has w L) : Has w.drew L := h
theorem BytesAt.drew {w : World} {p : Option Addr} {l : List UInt8} (h : BytesAt w p l) : BytesAt w.drew p l := h
/-- Bytes that a call owns, made a text. -/
theorem convert_owned {P : Program} {w : World} {base e src dst : TypeId} {g cap : Nat} {l : List UInt8} (hown : w.ownsRow base e 1 (.slice (some ⟨g, 0, none⟩) l.length cap) l.length (byteVals l))
    (hs : P.underlying src = some (.slice e)) (he : P.underlying e = some (.int .u8)) (hd : P.underlying dst = some .string) :
    (convert src dst (.slice (some ⟨g, 0, none⟩) l.length cap)).run P w = .ok (.string ⟨l.toArray⟩) w :=
  run_convert_bytes_back w src dst e ⟨g, 0, none⟩ cap l hs he hd fun j hj => hown.cells (g := g) rfl j _ (by simp [byteVals, hj])
end Go.Proofs.YtnpcmmjdojdmnaaGreatDoor
