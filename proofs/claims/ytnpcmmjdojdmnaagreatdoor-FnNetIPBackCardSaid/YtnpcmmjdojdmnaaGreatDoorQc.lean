/- Varints of numbers: their sizes and the bytes that are made (govarint.ToUvarint, CodeToVarint, ZZUvarint). The transcoders of the protocols, and small laws on new memory. -/
import Derived.Test.YtnpcmmjdojdmnaaGreatDoorShelf
import Derived.WalkKit
import Derived.WalkSpells
import Derived.WalkLawsBesides
import Derived.Lib.Hide
import Derived.Lib.Varint
import Derived.Lib.BitFns
import Derived.Lib.EndianMore
import Derived.Laws.IdiomCopy
import Derived.Test.YtnpcmmjdojdmnaaGreatDoorQa
namespace Go.Proofs.YtnpcmmjdojdmnaaGreatDoor
open Go Go.RowKit

/-- The slice v is new memory, from block B on, that holds the bytes l and no more. -/
def Fresh (B : Nat) (w : World) (v : Value) (l : List UInt8) : Prop :=
  ∃ g, B ≤ g ∧ g < w.heap.size ∧ v = .slice (some ⟨g, 0, none⟩) l.length l.length ∧ ∀ j (h : j < l.length), w.cell? ⟨g, j, none⟩ = some (.int .u8 (l[j]).toNat)

theorem Fresh.below {B B' : Nat} {w w' : World} {v : Value} {l : List UInt8} (h : Fresh B w v l) (hb : Below B' w w') (hB : w.heap.size ≤ B') : Fresh B w' v l := by
  obtain ⟨g, h1, h2, h3, h4⟩ := h
  exact ⟨g, h1, Nat.lt_of_lt_of_le h2 hb.size, h3, fun j hj => (hb.cell (p := ⟨g, j, none⟩) (by show g < B'; omega)).trans (h4 j hj)⟩
theorem Fresh.mono {B B' : Nat} {w : World} {v : Value} {l : List UInt8} (h : Fresh B w v l) (hB : B' ≤ B) : Fresh B' w v l := by
  obtain ⟨g, h1, h2⟩ := h
  exact ⟨g, Nat.le_trans hB h1, h2⟩

theorem ret_int {k : IntKind} {a b : Int} (h : a = b) : Ending.returned (.int k a) = .returned (.int k b) := by rw [h]

theorem bitLen_zero : Lib.bitLen 0 = 0 := by decide
theorem bitLen_one_le {x : Nat} (h0 : x ≠ 0) (h : x < 2 ^ 64) : 1 ≤ Lib.bitLen x := by rw [Lib.bitLen_half x h0 h]; omega
theorem bitLen_small : ∀ x : Fin 128, Lib.bitLen x.val ≤ 7 := by decide +kernel

/-- How many bytes a varint has. -/
theorem uvarint_len : ∀ (x : Nat), x < 2 ^ 64 → (Lib.uvarint x).length = if Lib.bitLen x = 0 then 1 else (Lib.bitLen x + 6) / 7 := by
  intro x
  induction x using Nat.strongRecOn with
  | _ x ih =>
    intro hx
    by_cases h : x < 128
    · rw [Lib.uvarint_small h]
      by_cases h0 : x = 0
      · subst h0; simp [bitLen_zero]
      · have h1 := bitLen_one_le h0 hx
        have h2 : Lib.bitLen x ≤ 7 := bitLen_small ⟨x, h⟩
        rw [if_neg (by omega)]
        show 1 = _
        omega
    · have hs : Lib.bitLen x = 7 + Lib.bitLen (x / 2 ^ 7) := Lib.bitLen_shift 7 x (by omega) hx
      have e : x / 2 ^ 7 = x / 128 := rfl
      rw [e] at hs
      have hx' : x / 128 < 2 ^ 64 := by omega
      rw [Lib.uvarint_big (by omega), List.length_cons, ih (x / 128) (by omega) hx', if_neg (by omega : ¬ Lib.bitLen x = 0), hs]
      have h1 := bitLen_one_le (x := x / 128) (by omega) hx'
      rw [if_neg (by omega)]
      omega

set_option maxRecDepth 100000 in
set_option maxHeartbeats 4000000 in
theorem uvarintSize (x : Nat) (hx : x < 18446744073709551616) (w : World) :
    Calls Tryz.prog 147 #[.int .u64 x] w fun e w' => e = .returned (.int .i64 (Lib.uvarint x).length) ∧ w = w' := by
  have hlen := uvarint_len x (by omega)
  have hle := Lib.uvarint_length64 hx
  have HC : ∀ wx, Calls Tryz.prog 187 #[.int .u64 (x : Int)] wx (fun e w' => e = .returned (.int .i64 (Lib.bitLen x)) ∧ wx = w') := by
    intro wx
    have h := Tryz.bits_Len64 (x : Int) wx (by omega) (by omega)
    rw [Int.toNat_natCast] at h
    exact h.mono fun e w' ⟨a, b⟩ => ⟨a, b.symm⟩
  obtain ⟨n, hn⟩ : ∃ n, n = Lib.bitLen x := ⟨_, rfl⟩
  rw [← hn] at hlen HC
  clear hn
  obtain ⟨k, hk⟩ : ∃ k, k = (Lib.uvarint x).length := ⟨_, rfl⟩
  rw [← hk] at hlen hle ⊢
  clear hk
  have hn70 : n ≤ 70 := by
    by_cases h : n = 0
    · omega
    · rw [if_neg h] at hlen; omega
  have HL := Lib.hid hlen; clear hlen
  obtain ⟨q, r, hq, hr⟩ : ∃ q r : Nat, n = 7 * q + r ∧ r < 7 := ⟨n / 7, n % 7, by omega, by omega⟩
  subst hq
  have d1 : (((7 * q + r : Nat)) : Int) / 7 = q := by omega
  have d2 : (((7 * q + r : Nat)) : Int) % 7 = r := by omega
  have hq10 : q ≤ 10 := by omega
  by_cases hr0 : r = 0
  · subst hr0
    by_cases hq0 : q = 0
    · subst hq0
      go_enter Tryz.func147, Tryz.ntmps147
      go_wp2_with (go_at_call 187; refine (HC _).mono ?_; rintro e w1 ⟨rfl, rfl⟩)
      go_ret
      exact ⟨by have := HL.out; simp at this; rw [this]; rfl, rfl⟩
    · have d3 : ((q : Int) == 0) = false := by simp; omega
      go_enter Tryz.func147, Tryz.ntmps147
      go_wp2_with (go_at_call 187; refine (HC _).mono ?_; rintro e w1 ⟨rfl, rfl⟩)
      go_ret
      exact ⟨ret_int (by have := HL.out; rw [if_neg (by omega)] at this; omega), rfl⟩
  · have d3 : 0 < (r : Int) := by omega
    go_enter Tryz.func147, Tryz.ntmps147
    go_wp2_with (go_at_call 187; refine (HC _).mono ?_; rintro e w1 ⟨rfl, rfl⟩)
    go_ret
    exact ⟨ret_int (by have := HL.out; rw [if_neg (by omega)] at this; omega), rfl⟩

theorem info5 : (Tryz.prog.info? 5).map (fun i => (i.zero, i.size, i.bytes)) = some (some (.int .u8 0), 1, 1) := by kernel_rfl

theorem byteCells_getElem (l : List UInt8) (j : Nat) (h : j < (Lib.byteCells l).length) (h' : j < l.length) : (Lib.byteCells l)[j] = .int .u8 (l[j]).toNat := by
  simp [Lib.byteCells]

set_option maxRecDepth 100000 in
set_option maxHeartbeats 4000000 in
/-- govarint.ToUvarint: new memory that holds the varint. -/
theorem toUvarint (x : Nat) (hx : x < 18446744073709551616) (w : World) :
    Calls Tryz.prog 72 #[.int .u64 x] w fun e w' => ∃ v, e = .returned v ∧ Fresh w.heap.size w' v (Lib.uvarint x) ∧ Below w.heap.size w w' := by
  obtain ⟨i0, hi, hz0, hz1, hz2⟩ := info_parts info5
  have hle := Lib.uvarint_length64 hx
  have hpos := Lib.uvarint_pos x
  go_enter Tryz.func72, Tryz.ntmps72
  go_wp2_with (first
    | (go_at_call 147; refine (uvarintSize x hx _).mono ?_; rintro e w1 ⟨rfl, rfl⟩)
    | (at_make; refine wpList_make_full _ rfl (.tmp 6) (.tmp 6) 22 rfl w.heap.size 5 i0 (.int .u8 0) 1 Tryz.underlying22 hi hz0 hz1 .i64 .i64 _ _ (Lib.uvarint x).length rfl rfl rfl rfl ?c1 ?c2 (Nat.le_refl _) ?_))
  case c1 => rw [hz2]; omega
  case c2 => unfold maxLen; omega
  intro w1 hown hgrow
  have hsz : w.heap.size < w1.heap.size := by
    have := hown.lt w.heap.size rfl
    exact this.2
  have hbel : Below w.heap.size w w1 := ⟨hgrow.os, hgrow.tape, hgrow.output, hgrow.size, fun k hk => hgrow.block k hk (by simp)⟩
  have hcell : ∀ j, j < (Lib.uvarint x).length → (w1.cell? ⟨w.heap.size, 0 + j, none⟩).isSome = true ∧ w1.frozen? ⟨w.heap.size, 0 + j, none⟩ = false := by
    intro j hj
    rw [Nat.zero_add]
    refine ⟨?_, hown.frozenAt j⟩
    rw [hown.cellAt j (by omega)]
    rw [List.getElem?_eq_getElem (by rw [hown.1]; omega)]; rfl
  have hP := Tryz.binary_PutUvarint w.heap.size 0 (Lib.uvarint x).length (Lib.uvarint x).length x hx w1 (Nat.le_refl _) hcell
  have hend : Fresh w.heap.size (w1.setCells w.heap.size 0 (Lib.byteCells (Lib.uvarint x))) (.slice (some ⟨w.heap.size, 0, none⟩) (Lib.uvarint x).length (Lib.uvarint x).length) (Lib.uvarint x) ∧ Below w.heap.size w (w1.setCells w.heap.size 0 (Lib.byteCells (Lib.uvarint x))) := by
    have hb2 : Below w.heap.size w1 (w1.setCells w.heap.size 0 (Lib.byteCells (Lib.uvarint x))) := Lib.below_setCells_w (Nat.le_refl _) _ _ _
    refine ⟨⟨w.heap.size, Nat.le_refl _, Nat.lt_of_lt_of_le hsz hb2.size, rfl, fun j hj => ?_⟩, hbel.trans hb2⟩
    have hl : (Lib.byteCells (Lib.uvarint x)).length = (Lib.uvarint x).length := by simp [Lib.byteCells]
    have := World.cell?_setCells_in w.heap.size (Lib.byteCells (Lib.uvarint x)) 0 w1 (fun j hj => (hcell j (by omega)).1) j (by omega)
    rw [Nat.zero_add] at this
    rw [this, byteCells_getElem _ _ _ hj]
  have HE := Lib.hid hend; clear hend hown hgrow hcell
  have HP := Lib.hid hP; clear hP
  go_wp2_with (go_at_call 148; refine (HP.out).mono ?_; rintro e w2 ⟨rfl, rfl⟩)
  go_ret
  exact ⟨_, rfl, HE.out.1, HE.out.2⟩

set_option maxRecDepth 100000 in
set_option maxHeartbeats 4000000 in
theorem codeToVarint (x : Nat) (hx : x ≤ 2147483647) (w : World) :
    Calls Tryz.prog 171 #[.int .i64 x] w fun e w' => ∃ v, e = .returned v ∧ Fresh w.heap.size w' v (Lib.uvarint x) ∧ Below w.heap.size w w' := by
  go_enter Tryz.func171, Tryz.ntmps171
  go_wp2_with (go_at_call 72; refine (toUvarint x (by omega) _).mono ?_; rintro e w2 ⟨v, rfl, hf, hb⟩)
  go_ret
  exact ⟨_, rfl, hf, hb⟩

set_option maxRecDepth 100000 in
set_option maxHeartbeats 4000000 in
theorem zzUvarint (x : Nat) (hx : x < 18446744073709551616) (w : World) :
    Calls Tryz.prog 49 #[.int .u64 x] w fun e w' => ∃ v, e = .returned v ∧ Fresh w.heap.size w' v (Lib.uvarint x) ∧ Below w.heap.size w w' := by
  go_enter Tryz.func49, Tryz.ntmps49
  go_wp2_with (go_at_call 72; refine (toUvarint x hx _).mono ?_; rintro e w2 ⟨v, rfl, hf, hb⟩)
  go_ret
  exact ⟨_, rfl, hf, hb⟩
end Go.Proofs.YtnpcmmjdojdmnaaGreatDoor
namespace Go.Proofs.YtnpcmmjdojdmnaaGreatDoor
open Go Go.RowKit

theorem bcell {W w1 : World} (hb : Below W.heap.size W w1) : (∀ b o, b < W.heap.size → w1.cell? ⟨b, o, none⟩ = W.cell? ⟨b, o, none⟩) ∧ (∀ b o, b < W.heap.size → w1.frozen? ⟨b, o, none⟩ = W.frozen? ⟨b, o, none⟩) :=
  ⟨fun b o h => hb.cell (p := ⟨b, o, none⟩) h, fun b o h => hb.frozen (p := ⟨b, o, none⟩) h⟩

theorem Fresh.setCell {b : Nat} {w : World} {v : Value} {l : List UInt8} (h : Fresh (b + 1) w v l) (o : Nat) (x : Value) : Fresh (b + 1) (w.setCell ⟨b, o, none⟩ x) v l := by
  obtain ⟨g, h1, h2, h3, h4⟩ := h
  refine ⟨g, h1, by simpa [World.setCell] using h2, h3, fun j hj => ?_⟩
  rw [World.cell?_of_block (w := w) (Below.heap_setCell w ⟨b, o, none⟩ x g (by show g ≠ b; omega))]
  exact h4 j hj

theorem Fresh.set6 {b : Nat} {w : World} {v : Value} {l : List UInt8} (h : Fresh (b + 1) w v l) (x0 x1 x2 x3 x4 x5 : Value) :
    Fresh b ((((((w.setCell ⟨b, 0, none⟩ x0).setCell ⟨b, 1, none⟩ x1).setCell ⟨b, 2, none⟩ x2).setCell ⟨b, 3, none⟩ x3).setCell ⟨b, 4, none⟩ x4).setCell ⟨b, 5, none⟩ x5) v l :=
  ((((((h.setCell 0 x0).setCell 1 x1).setCell 2 x2).setCell 3 x3).setCell 4 x4).setCell 5 x5).mono (Nat.le_succ _)

theorem below_set6 {b : Nat} {w0 w : World} (h : Below b w0 w) (x0 x1 x2 x3 x4 x5 : Value) :
    Below b w0 ((((((w.setCell ⟨b, 0, none⟩ x0).setCell ⟨b, 1, none⟩ x1).setCell ⟨b, 2, none⟩ x2).setCell ⟨b, 3, none⟩ x3).setCell ⟨b, 4, none⟩ x4).setCell ⟨b, 5, none⟩ x5) :=
  (((((h.setCell (Nat.le_refl _) _).setCell (Nat.le_refl _) _).setCell (Nat.le_refl _) _).setCell (Nat.le_refl _) _).setCell (Nat.le_refl _) _).setCell (Nat.le_refl _) _

theorem below_under {w w2 : World} {o : Obj} (hb : Below (w.alloc o).heap.size (w.alloc o) w2) : Below w.heap.size w w2 :=
  ((Below.refl _ _).alloc (Nat.le_refl _) _).trans (hb.mono (by simp))

/-- A transcoder of three functions; the last one may be nil. -/
abbrev tcF (a b : Nat) : Value := .iface 177 (.agg #[.func (.func a) #[] #[], .func (.func b) #[] #[], .nilFunc])
abbrev tcG (a b c : Nat) : Value := .iface 177 (.agg #[.func (.func a) #[] #[], .func (.func b) #[] #[], .func (.func c) #[] #[]])

/-- The transcoder of a protocol. -/
def tcv (c : Int) : Value := if c = 4 then tcF 199 200 else if c = 6 then tcF 201 202 else if c = 33 then tcF 201 202 else if c = 41 then tcF 206 207 else if c = 42 then tcG 208 209 210 else if c = 43 then tcG 211 212 213 else if c = 53 then tcG 203 204 205 else if c = 54 then tcG 203 204 205 else if c = 55 then tcG 203 204 205 else if c = 56 then tcG 203 204 205 else if c = 132 then tcF 201 202 else if c = 273 then tcF 201 202 else if c = 400 then tcG 235 236 237 else if c = 421 then tcG 232 233 234 else if c = 444 then tcG 214 215 216 else if c = 445 then tcG 217 218 219 else if c = 446 then tcG 220 221 222 else if c = 447 then tcG 223 224 225 else if c = 449 then tcG 203 204 205 else if c = 466 then tcG 226 227 228 else if c = 481 then tcG 229 230 231 else if c = 777 then tcG 238 239 240 else .nilIface

theorem tc172 (w : World) : Calls Tryz.prog 172 #[] w fun e w' => e = .returned (tcF 199 200) ∧ w = w' := by
  go_enter Tryz.func172, Tryz.ntmps172
  go_wp2
  go_ret
  exact ⟨rfl, rfl⟩

theorem tc173 (w : World) : Calls Tryz.prog 173 #[] w fun e w' => e = .returned (tcF 201 202) ∧ w = w' := by
  go_enter Tryz.func173, Tryz.ntmps173
  go_wp2
  go_ret
  exact ⟨rfl, rfl⟩

theorem tc174 (w : World) : Calls Tryz.prog 174 #[] w fun e w' => e = .returned (tcG 203 204 205) ∧ w = w' := by
  go_enter Tryz.func174, Tryz.ntmps174
  go_wp2
  go_ret
  exact ⟨rfl, rfl⟩

theorem tc175 (w : World) : Calls Tryz.prog 175 #[] w fun e w' => e = .returned (tcF 206 207) ∧ w = w' := by
  go_enter Tryz.func175, Tryz.ntmps175
  go_wp2
  go_ret
  exact ⟨rfl, rfl⟩

theorem tc176 (w : World) : Calls Tryz.prog 176 #[] w fun e w' => e = .returned (tcG 208 209 210) ∧ w = w' := by
  go_enter Tryz.func176, Tryz.ntmps176
  go_wp2
  go_ret
  exact ⟨rfl, rfl⟩

theorem tc177 (w : World) : Calls Tryz.prog 177 #[] w fun e w' => e = .returned (tcG 211 212 213) ∧ w = w' := by
  go_enter Tryz.func177, Tryz.ntmps177
  go_wp2
  go_ret
  exact ⟨rfl, rfl⟩

theorem tc178 (w : World) : Calls Tryz.prog 178 #[] w fun e w' => e = .returned (tcG 214 215 216) ∧ w = w' := by
  go_enter Tryz.func178, Tryz.ntmps178
  go_wp2
  go_ret
  exact ⟨rfl, rfl⟩

theorem tc179 (w : World) : Calls Tryz.prog 179 #[] w fun e w' => e = .returned (tcG 217 218 219) ∧ w = w' := by
  go_enter Tryz.func179, Tryz.ntmps179
  go_wp2
  go_ret
  exact ⟨rfl, rfl⟩

theorem tc180 (w : World) : Calls Tryz.prog 180 #[] w fun e w' => e = .returned (tcG 220 221 222) ∧ w = w' := by
  go_enter Tryz.func180, Tryz.ntmps180
  go_wp2
  go_ret
  exact ⟨rfl, rfl⟩

theorem tc181 (w : World) : Calls Tryz.prog 181 #[] w fun e w' => e = .returned (tcG 223 224 225) ∧ w = w' := by
  go_enter Tryz.func181, Tryz.ntmps181
  go_wp2
  go_ret
  exact ⟨rfl, rfl⟩

theorem tc182 (w : World) : Calls Tryz.prog 182 #[] w fun e w' => e = .returned (tcG 226 227 228) ∧ w = w' := by
  go_enter Tryz.func182, Tryz.ntmps182
  go_wp2
  go_ret
  exact ⟨rfl, rfl⟩

theorem tc183 (w : World) : Calls Tryz.prog 183 #[] w fun e w' => e = .returned (tcG 229 230 231) ∧ w = w' := by
  go_enter Tryz.func183, Tryz.ntmps183
  go_wp2
  go_ret
  exact ⟨rfl, rfl⟩

theorem tc184 (w : World) : Calls Tryz.prog 184 #[] w fun e w' => e = .returned (tcG 232 233 234) ∧ w = w' := by
  go_enter Tryz.func184, Tryz.ntmps184
  go_wp2
  go_ret
  exact ⟨rfl, rfl⟩

theorem tc185 (w : World) : Calls Tryz.prog 185 #[] w fun e w' => e = .returned (tcG 235 236 237) ∧ w = w' := by
  go_enter Tryz.func185, Tryz.ntmps185
  go_wp2
  go_ret
  exact ⟨rfl, rfl⟩

theorem tc186 (w : World) : Calls Tryz.prog 186 #[] w fun e w' => e = .returned (tcG 238 239 240) ∧ w = w' := by
  go_enter Tryz.func186, Tryz.ntmps186
  go_wp2
  go_ret
  exact ⟨rfl, rfl⟩

end Go.Proofs.YtnpcmmjdojdmnaaGreatDoor
