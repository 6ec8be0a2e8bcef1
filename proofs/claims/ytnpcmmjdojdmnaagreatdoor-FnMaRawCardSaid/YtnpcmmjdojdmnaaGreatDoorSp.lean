/- The plain law of base 58: the digits of a number in place; its size. base58: the alphabet (363, 304). base58: FastBase58EncodingAlphabet (375). -/
import Derived.Test.YtnpcmmjdojdmnaaGreatDoorSn
import Derived.BigGuard
namespace Go.Proofs.YtnpcmmjdojdmnaaGreatDoor

/-- The number of the first j digits; the number of the k digits from j. -/
def up58 (d : Nat → Nat) : Nat → Nat
  | 0 => 0
  | j + 1 => 58 * up58 d j + d j
def low58 (d : Nat → Nat) : Nat → Nat → Nat
  | _, 0 => 0
  | j, k + 1 => d j * 58 ^ k + low58 d (j + 1) k

theorem low58_last (d : Nat → Nat) : ∀ k j, low58 d j (k + 1) = 58 * low58 d j k + d (j + k) := by
  intro k
  induction k with
  | zero => intro j; simp [low58]
  | succ k ih =>
    intro j
    rw [low58, ih (j + 1), low58, Nat.pow_succ, Nat.mul_add, show j + 1 + k = j + (k + 1) by omega, Nat.add_assoc]
    rw [show d j * (58 ^ k * 58) = 58 * (d j * 58 ^ k) by rw [Nat.mul_comm (58 ^ k) 58, Nat.mul_left_comm]]

theorem up58_split (d : Nat → Nat) : ∀ k j, up58 d (j + k) = 58 ^ k * up58 d j + low58 d j k := by
  intro k
  induction k with
  | zero => intro j; simp [low58]
  | succ k ih =>
    intro j
    rw [low58_last, ← Nat.add_assoc, up58, ih j, Nat.pow_succ, Nat.mul_add, Nat.add_assoc, Nat.mul_comm (58 ^ k) 58, Nat.mul_assoc]

theorem up58_congr {d e : Nat → Nat} : ∀ {j : Nat}, (∀ i, i < j → d i = e i) → up58 d j = up58 e j := by
  intro j
  induction j with
  | zero => intro _; rfl
  | succ j ih => intro h; rw [up58, up58, ih fun i hi => h i (by omega), h j (by omega)]

theorem low58_congr {d e : Nat → Nat} : ∀ {k j : Nat}, (∀ i, j ≤ i → i < j + k → d i = e i) → low58 d j k = low58 e j k := by
  intro k
  induction k with
  | zero => intro j _; rfl
  | succ k ih => intro j h; rw [low58, low58, ih fun i h1 h2 => h i (by omega) (by omega), h j (Nat.le_refl _) (by omega)]

theorem up58_zero {d : Nat → Nat} {j : Nat} (h : ∀ i, i < j → d i = 0) : up58 d j = 0 := by
  induction j with
  | zero => rfl
  | succ j ih => rw [up58, ih fun i hi => h i (by omega), h j (by omega)]

/-- One step of the inner loop: j + 1 digits are left, c is the carry; the digit at j becomes x. -/
theorem step58 {d : Nat → Nat} {V c size j : Nat} (hj : j < size) (h : V = 58 ^ (size - (j + 1)) * (c + 256 * up58 d (j + 1)) + low58 d (j + 1) (size - (j + 1))) :
    V = 58 ^ (size - j) * ((c + 256 * d j) / 58 + 256 * up58 (fun i => if i = j then (c + 256 * d j) % 58 else d i) j) + low58 (fun i => if i = j then (c + 256 * d j) % 58 else d i) j (size - j) := by
  have e1 : up58 (fun i => if i = j then (c + 256 * d j) % 58 else d i) j = up58 d j := up58_congr fun i hi => by simp; omega
  obtain ⟨k, hk⟩ : ∃ k, size - j = k + 1 := ⟨size - j - 1, by omega⟩
  have e2 : size - (j + 1) = k := by omega
  have e3 : low58 (fun i => if i = j then (c + 256 * d j) % 58 else d i) (j + 1) k = low58 d (j + 1) k := low58_congr fun i h1 _ => by simp; omega
  rw [e2] at h
  rw [hk, e1, low58, e3, h, up58]
  simp only [if_true]
  rw [Nat.pow_succ]
  generalize 58 ^ k = P
  generalize up58 d j = U
  generalize low58 d (j + 1) k = L
  have hd : c + 256 * d j = 58 * ((c + 256 * d j) / 58) + (c + 256 * d j) % 58 := (Nat.div_add_mod _ _).symm
  generalize (c + 256 * d j) / 58 = Q at *
  generalize (c + 256 * d j) % 58 = R at *
  rw [← Nat.add_assoc, Nat.mul_comm R P, Nat.mul_assoc, ← Nat.mul_add]
  congr 2
  omega

/-- At the end of the inner loop: no carry, and the digits before are zero. -/
theorem end58 {d : Nat → Nat} {V size j : Nat} (hj : j ≤ size) (hz : ∀ i, i < j → d i = 0) (h : V = 58 ^ (size - j) * (0 + 256 * up58 d j) + low58 d j (size - j)) : V = up58 d size := by
  have := up58_split d (size - j) j
  rw [show j + (size - j) = size by omega] at this
  rw [this, h, up58_zero hz]

theorem start58 {d : Nat → Nat} {size b : Nat} : 256 * up58 d size + b = 58 ^ (size - size) * (b + 256 * up58 d size) + low58 d size (size - size) := by
  rw [Nat.sub_self]
  simp [low58]
  exact Nat.add_comm _ _

/-- No digit left: no carry. -/
theorem none58 {d : Nat → Nat} {V c size : Nat} (hV : V < 58 ^ size) (h : V = 58 ^ (size - 0) * (c + 256 * up58 d 0) + low58 d 0 (size - 0)) : c = 0 := by
  rcases Nat.eq_zero_or_pos c with e | e
  · exact e
  · rw [up58, Nat.sub_zero] at h
    have : 58 ^ size * 1 ≤ 58 ^ size * (c + 256 * 0) := Nat.mul_le_mul_left _ (by omega)
    omega

theorem carry58 {c d : Nat} (hc : c ≤ 255) (hd : d < 58) : (c + 256 * d) / 58 ≤ 255 := by omega

/-- The size is enough. -/
theorem size58 (n : Nat) : 256 ^ n ≤ 58 ^ (n * 138 / 100 + 1) := by
  have h1 : (256 : Nat) ^ 100 ≤ 58 ^ 138 := by decide +kernel
  have h2 : (256 ^ n) ^ 100 ≤ (58 ^ (n * 138 / 100 + 1)) ^ 100 := by
    rw [← Nat.pow_mul, Nat.mul_comm n 100, Nat.pow_mul]
    refine Nat.le_trans (Nat.pow_le_pow_left h1 n) ?_
    rw [← Nat.pow_mul, ← Nat.pow_mul]
    exact Nat.pow_le_pow_right (by omega) (by omega)
  exact (Nat.pow_le_pow_iff_left (by omega)).1 h2

theorem bound58 {V b k n size : Nat} (hV : V < 256 ^ k) (hb : b < 256) (hk : k < n) (hs : size = n * 138 / 100 + 1) : 256 * V + b < 58 ^ size ∧ 256 * V + b < 256 ^ (k + 1) := by
  have h1 : 256 * V + b < 256 ^ (k + 1) := by
    rw [Nat.pow_succ, Nat.mul_comm _ 256]
    omega
  have h2 : (256 : Nat) ^ (k + 1) ≤ 256 ^ n := Nat.pow_le_pow_right (by omega) (by omega)
  have h3 := size58 n
  rw [← hs] at h3
  exact ⟨by omega, h1⟩
end Go.Proofs.YtnpcmmjdojdmnaaGreatDoor
namespace Go.Proofs.YtnpcmmjdojdmnaaGreatDoor
open Go Go.RowKit Go.Sort

/-- An alphabet of base 58 in memory. -/
def Alph (w : World) (q : Nat) : Prop := q < w.heap.size ∧ ∃ E : List UInt8, E.length = 58 ∧ At w q 128 E
theorem Alph.below {B q : Nat} {w w' : World} (h : Alph w q) (hb : Below B w w') (hq : q < B) : Alph w' q := by
  obtain ⟨h1, E, h3, h4⟩ := h
  exact ⟨Nat.lt_of_lt_of_le h1 hb.size, E, h3, h4.below hb hq⟩

theorem zero326 : Tryz.zeroCells326.size = 186 := by kernel_rfl

/-- The row of an alphabet in the making: its letters stand, the map may be written. -/
structure RowA (s : ByteArray) (g : Nat) (w : World) : Prop where
  letters : ∀ j (h : j < s.size), w.cell? ⟨g, 128 + j, none⟩ = some (.int .u8 s[j].toNat)
  whole : ∀ j, j < 128 → ∃ v, w.cell? ⟨g, j, none⟩ = some v
  soft : ∀ j, j < 128 → w.frozen? ⟨g, j, none⟩ = false
  lt : g < w.heap.size

theorem RowA.step {s : ByteArray} {g : Nat} {w : World} (h : RowA s g w) (j : Nat) (hj : j < 128) (v : Value) : RowA s g (w.setCell ⟨g, j, none⟩ v) := by
  refine ⟨fun i hi => ?_, fun i hi => ?_, fun i hi => ?_, ?_⟩
  · rw [World.cell?_setCell_other _ _ _ _ (by intro e; injection e with e1 e2; omega)]; exact h.letters i hi
  · by_cases e : i = j
    · subst e
      exact ⟨v, World.cell?_setCell_same _ _ _ (h.whole _ hi).choose_spec⟩
    · rw [World.cell?_setCell_other _ _ _ _ (by intro e2; injection e2 with e3 e4; exact e e4.symm)]; exact h.whole i hi
  · rw [World.frozen?_setCell]; exact h.soft i hi
  · have := h.lt
    simpa using this

theorem idx324 {k : Nat} (cs : List Value) (hk : k < 58) (v : Value) (w : World) (h : cs[k]? = some v) : (Instr.index 324 (.agg cs.toArray) (.int .i64 (k : Int))).run Tryz.prog w = .ok v w := by
  have hin : 0 ≤ (k : Int) ∧ (k : Int) < 58 := by omega
  simp [Instr.index, run_underlying Tryz.underlying324, asIntOf, hin, go_sem, h]
  intro h2
  omega

set_option maxRecDepth 1000000 in
set_option maxHeartbeats 8000000 in
theorem new58 (s : ByteArray) (hs : s.size = 58) (hch : ∀ i (h : i < s.size), s[i].toNat < 128) (w : World) :
    Calls Tryz.prog 363 #[.string s] w fun e w' => ∃ q, e = .returned (.pointer (some ⟨q, 0, none⟩)) ∧ Alph w' q ∧ Below w.heap.size w w' := by
  have e1 : ((s.size : Int) != 58) = false := by rw [hs]; rfl
  obtain ⟨Y1, hY1⟩ : ∃ Y1, Y1 = (Tryz.zeroCells326.toList.take 128 ++ Lib.byteCells s.data.toList ++ Tryz.zeroCells326.toList.drop (128 + s.size)).toArray := ⟨_, rfl⟩
  have hcp1 : (Builtin.copy_ #[22, 9] 3 #[.slice (some ⟨w.heap.size, 128, none⟩) 58 58, .string s]).run Tryz.prog (w.alloc (.cells Tryz.zeroCells326 326)) = .ok (goInt 58) (w.alloc (.cells Y1 326)) := by
    have := Lib.run_copy_row_string (P := Tryz.prog) (w.alloc (.cells Tryz.zeroCells326 326)) 22 9 3 5 w.heap.size 128 58 58 s Tryz.zeroCells326 326 Tryz.underlying22 (by kernel_rfl) (heap_alloc_last w _) (by omega) (by rw [zero326]; omega)
    rw [this, hs, World.setRow_alloc_new, hY1, hs]
    rfl
  have b1 : Lib.byteCells s.data.toList = byteVals s.data.toList := rfl
  have l1 : (byteVals s.data.toList).length = 58 := by rw [byteVals_length, Array.length_toList]; exact hs
  have lt1 : (Tryz.zeroCells326.toList.take 128).length = 128 := by rw [List.length_take, Array.length_toList, zero326]; rfl
  have sY1 : Y1.size = 186 := by
    rw [hY1, b1, List.size_toArray, List.length_append, List.length_append, lt1, l1, List.length_drop, Array.length_toList, zero326, hs]
  have gY1 : ∀ j (h : j < s.size), Y1[128 + j]? = some (.int .u8 s[j].toNat) := fun j h => by
    rw [hY1, b1, List.getElem?_toArray, List.append_assoc, List.getElem?_append_right (by omega), lt1, List.getElem?_append_left (by omega), Nat.add_sub_cancel_left]
    have hj : j < s.data.toList.length := by rw [Array.length_toList]; exact h
    simp only [byteVals, List.getElem?_map, List.getElem?_eq_getElem hj, Option.map_some, Array.getElem_toList]
    rfl
  have hc : ∀ j, (w.alloc (.cells Y1 326)).cell? ⟨w.heap.size, j, none⟩ = Y1[j]? := fun j => by
    simp only [World.cell?, heap_alloc_last]
    rfl
  have HROW : Hid (RowA s w.heap.size (w.alloc (.cells Y1 326))) := Lib.hid ⟨fun j hj => (hc _).trans (gY1 j hj), fun j hj => ⟨Y1[j]'(by omega), (hc j).trans (by rw [Array.getElem?_eq_getElem])⟩, fun j hj => by
    simp only [World.frozen?, heap_alloc_last]
    simp, by simp⟩
  clear hY1 b1 l1 lt1 sY1 gY1 hc
  obtain ⟨W, hW⟩ : ∃ W, W = w.alloc (.cells Y1 326) := ⟨_, rfl⟩
  have HW : Hid (RowA s w.heap.size W ∧ Below w.heap.size w W) := Lib.hid ⟨by rw [hW]; exact HROW.out, by rw [hW]; exact (Below.refl _ _).alloc (Nat.le_refl _) _⟩
  have H := Lib.hid hch
  clear hch HROW
  go_enter Tryz.func363, Tryz.ntmps363
  go_wp2
  rw [← hW]
  clear hW
  go_loopw [4, 18] (fun _ v18 wr => ∃ k : Nat, v18 = .int .i64 k ∧ k ≤ 128 ∧ Hid (RowA s w.heap.size wr) ∧ Below w.heap.size w wr) (fun _ v18 _ => 128 - (intOf v18).toNat)
  case atStart => exact ⟨0, rfl, Nat.zero_le _, Lib.hid HW.out.1, HW.out.2⟩
  case round =>
    obtain ⟨k, rfl, hk, hd, hbl⟩ := hrel
    by_cases hlt : k < 128
    · obtain ⟨v, hv⟩ := hd.out.whole k hlt
      have hsoft := hd.out.soft k hlt
      go_wp2
      exact ⟨⟨k + 1, rfl, by omega, Lib.hid (hd.out.step k hlt _), bset w.heap.size hbl (Nat.le_refl _) _ _⟩, by simp [intOf]; omega⟩
    · have HR : Hid (wr.rangeAt w.heap.size 128 (byteVals s.data.toList)) := Lib.hid (fun j v hj => by
        obtain ⟨hj', rfl⟩ := byteVals_get hj
        exact hd.out.letters j (by rw [Array.length_toList] at hj'; exact hj'))
      have HI : Hid ((Tryz.prog.info? 324).map (·.size) = some (byteVals s.data.toList).length) := Lib.hid (by rw [byteVals_length, Array.length_toList]; show _ = some s.size; rw [hs]; kernel_rfl)
      go_wp2_with (refine wpList_load_mid rfl 324 (.tmp 29) rfl w.heap.size 128 rfl (byteVals s.data.toList) _ HR.out Tryz.underlying324 rfl HI.out ?_)
      have HR2 := Lib.hid hd.out
      clear hd hk hlt HR HI
      go_loopw [31] (fun v31 ws => ∃ k : Nat, v31 = .int .i64 k ∧ k ≤ 58 ∧ Hid (RowA s w.heap.size ws) ∧ Below w.heap.size w ws) (fun v31 _ => 58 - (intOf v31).toNat)
      case atStart => exact ⟨0, rfl, Nat.zero_le _, HR2, hbl⟩
      case round =>
        obtain ⟨k, rfl, hk, hd, hbl⟩ := hrel
        by_cases hlt : k < 58
        · have hks : k < s.size := by omega
          have hlk := H.out k hks
          obtain ⟨v, hv⟩ := hd.out.whole s[k].toNat hlk
          have hsoft := hd.out.soft s[k].toNat hlk
          have hget : (byteVals s.data.toList)[k]? = some (.int .u8 s[k].toNat) := by
            have hj : k < s.data.toList.length := by rw [Array.length_toList]; exact hks
            simp only [byteVals, List.getElem?_map, List.getElem?_eq_getElem hj, Option.map_some, Array.getElem_toList]
            rfl
          have hidx : (Instr.index 324 (.agg (byteVals s.data.toList).toArray) (.int .i64 (k : Int))).run Tryz.prog wr = .ok (.int .u8 s[k].toNat) wr := idx324 _ hlt _ _ hget
          go_wp2
          exact ⟨⟨k + 1, by go_num, by omega, Lib.hid (hd.out.step _ hlk _), bset w.heap.size hbl (Nat.le_refl _) _ _⟩, by simp [intOf]; omega⟩
        · go_wp2
          go_ret
          exact ⟨w.heap.size, rfl, ⟨hd.out.lt, s.data.toList, by rw [Array.length_toList]; exact hs, fun j hj => by
            rw [hd.out.letters j (by rw [Array.length_toList] at hj; exact hj)]
            rfl⟩, hbl⟩

set_option maxRecDepth 1000000 in
theorem btc_ch : ∀ i (h : i < (⟨#[49, 50, 51, 52, 53, 54, 55, 56, 57, 65, 66, 67, 68, 69, 70, 71, 72, 74, 75, 76, 77, 78, 80, 81, 82, 83, 84, 85, 86, 87, 88, 89, 90, 97, 98, 99, 100, 101, 102, 103, 104, 105, 106, 107, 109, 110, 111, 112, 113, 114, 115, 116, 117, 118, 119, 120, 121, 122]⟩ : ByteArray).size), (⟨#[49, 50, 51, 52, 53, 54, 55, 56, 57, 65, 66, 67, 68, 69, 70, 71, 72, 74, 75, 76, 77, 78, 80, 81, 82, 83, 84, 85, 86, 87, 88, 89, 90, 97, 98, 99, 100, 101, 102, 103, 104, 105, 106, 107, 109, 110, 111, 112, 113, 114, 115, 116, 117, 118, 119, 120, 121, 122]⟩ : ByteArray)[i].toNat < 128 := by decide +kernel

set_option maxRecDepth 1000000 in
set_option maxHeartbeats 4000000 in
theorem btc304 (w : World) : Calls Tryz.prog 304 #[] w fun e w' => ∃ q, e = .returned (.pointer (some ⟨q, 0, none⟩)) ∧ Alph w' q ∧ Below w.heap.size w w' := by
  have H := Lib.hid (new58 ⟨#[49, 50, 51, 52, 53, 54, 55, 56, 57, 65, 66, 67, 68, 69, 70, 71, 72, 74, 75, 76, 77, 78, 80, 81, 82, 83, 84, 85, 86, 87, 88, 89, 90, 97, 98, 99, 100, 101, 102, 103, 104, 105, 106, 107, 109, 110, 111, 112, 113, 114, 115, 116, 117, 118, 119, 120, 121, 122]⟩ rfl btc_ch w)
  go_enter Tryz.func304, Tryz.ntmps304
  go_wp2_with (go_at_call 363; (with_reducible refine H.out.mono ?_); rintro e w2 ⟨q, rfl, h2, h3⟩)
  go_ret
  exact ⟨q, rfl, h2, h3⟩
end Go.Proofs.YtnpcmmjdojdmnaaGreatDoor
namespace Go.Proofs.YtnpcmmjdojdmnaaGreatDoor
open Go Go.RowKit Go.Sort

/-- Digits of base 58 in memory, from base on. -/
def Dig (w : World) (g base s : Nat) (d : Nat → Nat) : Prop := ∀ j, j < s → w.cell? ⟨g, base + j, none⟩ = some (.int .u8 (d j : Nat)) ∧ d j < 58

theorem Dig.set {w : World} {g base s : Nat} {d : Nat → Nat} (h : Dig w g base s d) (j x : Nat) (hx : x < 58) : Dig (w.setCell ⟨g, base + j, none⟩ (.int .u8 (x : Nat))) g base s (fun i => if i = j then x else d i) := fun i hi => by
  obtain ⟨h1, h2⟩ := h i hi
  by_cases e : i = j
  · subst e
    exact ⟨by simp only [if_true]; exact World.cell?_setCell_same _ _ _ h1, by simp only [if_true]; exact hx⟩
  · simp only [if_neg e]
    exact ⟨by rw [World.cell?_setCell_other _ _ _ _ (by intro e2; injection e2 with e3 e4; omega)]; exact h1, h2⟩

theorem Dig.set_low {w : World} {g base s : Nat} {d : Nat → Nat} (h : Dig w g base s d) (j : Nat) (hj : j < base) (v : Value) : Dig (w.setCell ⟨g, j, none⟩ v) g base s d := fun i hi => by
  obtain ⟨h1, h2⟩ := h i hi
  exact ⟨by rw [World.cell?_setCell_other _ _ _ _ (by intro e2; injection e2 with e3 e4; omega)]; exact h1, h2⟩

theorem Dig.drewN {w : World} {g base s : Nat} {d : Nat → Nat} (h : Dig w g base s d) (n : Nat) : Dig (w.drewN n) g base s d := fun i hi => by
  rw [World.cell?_drewN]
  exact h i hi

theorem Bys.setN {w : World} {g N : Nat} (h : Bys w g N) (i x : Nat) (hx : x < 256) : Bys (w.setCell ⟨g, i, none⟩ (.int .u8 (x : Nat))) g N := by
  have := h.set i x.toUInt8
  rwa [show ((x.toUInt8.toNat : Nat) : Int) = (x : Int) by simp; omega] at this
theorem bys_take {w : World} {g N M : Nat} (h : Bys w g N) (hM : M ≤ N) : Bys w g M := fun j hj => h j (by omega)

set_option maxRecDepth 100000 in
set_option maxHeartbeats 16000000 in
theorem fast58 (l : List UInt8) (hlim : l.length ≤ 1000000) (q g o cp : Nat) (w : World) (ha : Alph w q) (hc : At w g o l) (hgl : g < w.heap.size) (_hcp : l.length ≤ cp) :
    Calls Tryz.prog 375 #[.slice (some ⟨g, o, none⟩) l.length cp, .pointer (some ⟨q, 0, none⟩)] w fun e w' => ∃ s, e = .returned (.string s) ∧ Below w.heap.size w w' := by
  obtain ⟨i0, hi, hz0, hz1, hz2⟩ := info_parts info5
  obtain ⟨hqq, E, hE, hat⟩ := ha
  obtain ⟨x0, hx0⟩ : ∃ x, x = E[0] := ⟨_, rfl⟩
  have c0 : w.cell? ⟨q, 128, none⟩ = some (.int .u8 x0.toNat) := by rw [hx0]; exact hat 0 (by omega)
  obtain ⟨n, hn⟩ : ∃ n, n = l.length := ⟨_, rfl⟩
  have HALL := Lib.hid (And.intro hE (And.intro hat (And.intro hc hn)))
  rw [← hn] at hlim _hcp ⊢
  clear hE hat hc hx0 hn
  go_enter Tryz.func375, Tryz.ntmps375
  go_wp2
  go_loopw [9] (fun v9 wr => ∃ z : Nat, v9 = .int .i64 z ∧ z ≤ n ∧ w = wr) (fun v9 _ => n - (intOf v9).toNat)
  case atStart => exact ⟨0, rfl, Nat.zero_le _, rfl⟩
  case round =>
    obtain ⟨z, rfl, hz, rfl⟩ := hrel
    by_cases hzn : z < n ∧ ∃ h : z < l.length, l[z] = 0
    · obtain ⟨hzn, hzl, hz0⟩ := hzn
      have cz : w.cell? ⟨g, o + z, none⟩ = some (.int .u8 0) := by have := HALL.out.2.2.1 z hzl; rw [hz0] at this; exact this
      go_wp2
      exact ⟨⟨z + 1, rfl, by omega, trivial⟩, by simp [intOf]; omega⟩
    · have hout : z = n ∨ (z < n ∧ ∃ x : UInt8, x.toNat ≠ 0 ∧ w.cell? ⟨g, o + z, none⟩ = some (.int .u8 x.toNat)) := by
        obtain ⟨_, _, hc, hn⟩ := HALL.out
        rcases Nat.lt_or_ge z n with h | h
        · refine Or.inr ⟨h, l[z], fun e => hzn ⟨h, by omega, UInt8.toNat_inj.1 (by simpa using e)⟩, hc z (by omega)⟩
        · exact Or.inl (by omega)
      clear hzn
      obtain ⟨s, hs⟩ : ∃ s, s = (n - z) * 138 / 100 + 1 := ⟨_, rfl⟩
      obtain ⟨N, hN⟩ : ∃ N, N = 2 * s + z := ⟨_, rfl⟩
      obtain ⟨base, hbase⟩ : ∃ base, base = s + z := ⟨_, rfl⟩
      have hsI : ((n : Int) - (z : Int)) * 138 / 100 + 1 = (s : Int) := by omega
      have hNI : (s : Int) * 2 + (z : Int) = (N : Int) := by omega
      have hbI : (s : Int) + (z : Int) = (base : Int) := by omega
      have hsB : s ≤ 1380001 := by omega
      have hs1 : 1 ≤ s := by omega
      have hNB : N ≤ 4000000 := by omega
      have hbB : base ≤ 3000000 := by omega
      have HS := Lib.hid (And.intro hs (And.intro hN hbase))
      have hnz : (z : Int) ≤ (n : Int) := by omega
      have hq0 : ∀ x : UInt8, x.toNat ≠ 0 → ((x.toNat : Int) == 0) = false := fun x hx => by rw [beq_eq_false_iff_ne]; omega
      clear hs hN hbase
      have hq : ¬ z < n ∨ (z < n ∧ ∃ x : UInt8, ((x.toNat : Int) == 0) = false ∧ w.cell? ⟨g, o + z, none⟩ = some (.int .u8 x.toNat)) := by
        rcases hout with h | ⟨h, x, hx, cz⟩
        · exact Or.inl (by omega)
        · exact Or.inr ⟨h, x, hq0 x hx, cz⟩
      clear hout hq0
      rcases hq with hq | ⟨hq, x, hx, cz⟩
      all_goals
        go_wp2_with (at_make; refine wpList_make_full _ rfl (.tmp 44) (.tmp 44) 22 rfl w.heap.size 5 i0 (.int .u8 0) 1 Tryz.underlying22 hi hz0 hz1 .i64 .i64 _ _ N rfl rfl rfl rfl ?c1 ?c2 (Nat.le_refl _) ?_)
        case c1 => rw [hz2]; omega
        case c2 => unfold maxLen; omega
        intro w3 hown hgrow
        have hb3 : Below w.heap.size w w3 := ⟨hgrow.os, hgrow.tape, hgrow.output, hgrow.size, fun k hk => hgrow.block k hk (by simp)⟩
        have hB : Bys w3 w.heap.size N := fun j hj => by
          refine ⟨0, ?_, hown.frozenAt j⟩
          have := hown.cellAt j (by simp; omega)
          rw [this]
          simp [madeCells]
          exact ⟨j, by rw [List.getElem?_range (by omega)], by simp [Nat.mod_one]⟩
        have hD : Dig w3 w.heap.size base s (fun _ => 0) := fun j hj => by
          refine ⟨?_, by show 0 < 58; decide⟩
          have := hown.cellAt (base + j) (by have := HS.out; simp; omega)
          rw [this]
          simp [madeCells]
          exact ⟨base + j, by rw [List.getElem?_range (by have := HS.out; omega)], by simp [Nat.mod_one]⟩
        have HBD := Lib.hid (And.intro hB hD)
        have hNs : N - base = s := by have := HS.out; omega
        clear hown hgrow hB hD
        go_wp2
        clear hsI hNI hbI hnz hq
        go_loopw [7, 10] (fun v7 v10 wr => ∃ (i h : Nat) (D : Nat → Nat), v7 = .int .i64 i ∧ z ≤ i ∧ i ≤ n ∧ v10 = .int .i64 ((h : Int) - 1) ∧ h ≤ s ∧ Hid (Dig wr w.heap.size base s D ∧ (∀ j, j < h → D j = 0) ∧ up58 D s < 256 ^ (i - z)) ∧ Hid (Bys wr w.heap.size N) ∧ Below w.heap.size w wr) (fun v7 _ _ => n - (intOf v7).toNat)
        case atStart => exact ⟨z, s, fun _ => 0, rfl, Nat.le_refl _, hz, rfl, Nat.le_refl _, Lib.hid ⟨HBD.out.2, fun _ _ => rfl, by rw [up58_zero (fun _ _ => rfl)]; exact Nat.pow_pos (by omega)⟩, Lib.hid HBD.out.1, hb3⟩
        case round =>
          obtain ⟨i, h, D, rfl, hzi, hin, rfl, hhs, hdig, hby, hbl⟩ := hrel
          by_cases hilt : i < n
          · obtain ⟨b, hb⟩ : ∃ b : UInt8, wr.cell? ⟨g, o + i, none⟩ = some (.int .u8 b.toNat) := by
              obtain ⟨_, _, hc, hn⟩ := HALL.out
              exact ⟨l[i]'(by omega), (hbl.cell (p := ⟨g, o + i, none⟩) hgl).trans (hc i (by omega))⟩
            have hb8 := b.toNat_lt
            obtain ⟨V, hV⟩ : ∃ V, V = 256 * up58 D s + b.toNat := ⟨_, rfl⟩
            have HV : Hid (V = 256 * up58 D s + b.toNat ∧ V < 58 ^ s ∧ V < 256 ^ (i + 1 - z)) := Lib.hid (by
              have := bound58 (V := up58 D s) (b := b.toNat) (k := i - z) (n := n - z) (size := s) hdig.out.2.2 (by omega) (by omega) HS.out.1
              rw [← hV] at this
              rw [show i + 1 - z = i - z + 1 by omega]
              exact ⟨hV, this⟩)
            clear hV
            go_wp2
            go_loopw [8, 11] (fun v8 v11 wx => ∃ (j c : Nat) (x : Int) (F : Nat → Nat), v8 = .int .i64 x ∧ Hid (x = (j : Int) - 1) ∧ j ≤ s ∧ v11 = .int .u32 c ∧ c ≤ 255 ∧ Hid (Dig wx w.heap.size base s F ∧ (∀ a, a < j → a < h → F a = 0) ∧ V = 58 ^ (s - j) * (c + 256 * up58 F j) + low58 F j (s - j)) ∧ Hid (Bys wx w.heap.size N) ∧ Below w.heap.size w wx) (fun v8 _ _ => (intOf v8 + 1).toNat)
            case atStart => exact ⟨s, b.toNat, _, D, rfl, Lib.hid rfl, Nat.le_refl _, rfl, by omega, Lib.hid ⟨hdig.out.1, fun a _ ha => hdig.out.2.1 a ha, by rw [HV.out.1]; exact start58⟩, hby, hbl⟩
            case round =>
              obtain ⟨j, c, x, F, rfl, hxj, hjs, rfl, hc255, hst, hby2, hbl2⟩ := hrel
              by_cases hgo : h < j ∨ c ≠ 0
              · have hj1 : 1 ≤ j := by
                  rcases Nat.eq_zero_or_pos j with e | e
                  · subst e
                    have := none58 HV.out.2.1 hst.out.2.2
                    omega
                  · exact e
                obtain ⟨k, rfl⟩ : ∃ k, j = k + 1 := ⟨j - 1, by omega⟩
                obtain rfl : x = (k : Int) := by have := hxj.out; omega
                have hks : k < s := by omega
                obtain ⟨hcell, hd58⟩ := hst.out.1 k hks
                obtain ⟨_, -, f0⟩ := hby2.out (base + k) (by have := HS.out; omega)
                obtain ⟨m, hm⟩ : ∃ m, m = (c + 256 * F k) % 58 := ⟨_, rfl⟩
                obtain ⟨t, ht⟩ : ∃ t, t = (c + 256 * F k) / 58 := ⟨_, rfl⟩
                have hm58 : m < 58 := by omega
                have ht255 : t ≤ 255 := by omega
                have HNX : Hid (Dig (wr.setCell ⟨w.heap.size, base + k, none⟩ (.int .u8 (m : Nat))) w.heap.size base s (fun i => if i = k then m else F i) ∧ (∀ a, a < k → a < h → (fun i => if i = k then m else F i) a = 0) ∧ V = 58 ^ (s - k) * (t + 256 * up58 (fun i => if i = k then m else F i) k) + low58 (fun i => if i = k then m else F i) k (s - k)) := Lib.hid ⟨hst.out.1.set k m hm58, fun a ha hah => by
                  show (if a = k then m else F a) = 0
                  rw [if_neg (by omega)]
                  exact hst.out.2.1 a (by omega) hah, by
                  rw [hm, ht]
                  exact step58 hks hst.out.2.2⟩
                have HBY3 := Lib.hid (hby2.out.setN (base + k) m (by omega))
                obtain ⟨d, hd⟩ : ∃ d, d = F k := ⟨_, rfl⟩
                rw [← hd] at hcell hd58 hm ht
                have hmI : ((c : Int) + 256 * (d : Int)) % 58 = (m : Int) := by omega
                have htI : ((c : Int) + 256 * (d : Int)) / 58 = (t : Int) := by omega
                clear hm ht hd hst hby2
                by_cases hhk : h < k + 1
                · have hhI : (h : Int) - 1 < (k : Int) := by omega
                  clear hgo
                  go_wp2
                  exact ⟨⟨k, t, (k : Int) - 1, _, rfl, Lib.hid rfl, by omega, by rw [htI], ht255, HNX, HBY3, bset w.heap.size hbl2 (Nat.le_refl _) _ _⟩, by simp [intOf]⟩
                · have hhI : ¬ (h : Int) - 1 < (k : Int) := by omega
                  have hcI : ((c : Int) != 0) = true := by rw [bne_iff_ne]; omega
                  clear hgo
                  go_wp2
                  exact ⟨⟨k, t, (k : Int) - 1, _, rfl, Lib.hid rfl, by omega, by rw [htI], ht255, HNX, HBY3, bset w.heap.size hbl2 (Nat.le_refl _) _ _⟩, by simp [intOf]⟩
              · have hc0 : c = 0 := by omega
                subst hc0
                have hhI : ¬ (h : Int) - 1 < x := by have := hxj.out; omega
                have HEND : Hid ((∀ a, a < j → F a = 0) ∧ up58 F s = V) := Lib.hid (by
                  have hz : ∀ a, a < j → F a = 0 := fun a ha => hst.out.2.1 a ha (by omega)
                  exact ⟨hz, (end58 hjs hz hst.out.2.2).symm⟩)
                clear hgo
                go_wp2
                exact ⟨⟨i + 1, j, F, by go_num, by omega, by omega, by rw [hxj.out], hjs, Lib.hid ⟨hst.out.1, HEND.out.1, by rw [HEND.out.2]; exact HV.out.2.2⟩, hby2, hbl2⟩, by simp [intOf]; omega⟩
          · have HDG := Lib.hid hdig.out.1
            clear hdig hzi hhs
            go_wp2
            clear hin hilt
            go_loopw [8] (fun v8 wq => ∃ j : Nat, v8 = .int .i64 j ∧ j ≤ s ∧ wr = wq) (fun v8 _ => s - (intOf v8).toNat)
            case atStart => exact ⟨0, rfl, Nat.zero_le _, rfl⟩
            case round =>
              obtain ⟨j, rfl, hjs, rfl⟩ := hrel
              by_cases hz : j < s ∧ D j = 0
              · obtain ⟨hjs2, hj0⟩ := hz
                have cj : wr.cell? ⟨w.heap.size, base + j, none⟩ = some (.int .u8 0) := by have := (HDG.out j hjs2).1; rw [hj0] at this; exact this
                clear hj0
                go_wp2
                exact ⟨⟨j + 1, by go_num, by omega, trivial⟩, by simp [intOf]; omega⟩
              · obtain ⟨M, hM⟩ : ∃ M, M = s - j + z := ⟨_, rfl⟩
                have hMI : (s : Int) - (j : Int) + (z : Int) = (M : Int) := by omega
                have hMN : M ≤ N := by have := HS.out; omega
                have HMM := Lib.hid hM
                clear hM
                have hq2 : ¬ j < s ∨ (j < s ∧ ∃ y : Nat, ((y : Int) == 0) = false ∧ wr.cell? ⟨w.heap.size, base + j, none⟩ = some (.int .u8 (y : Nat))) := by
                  by_cases hjs2 : j < s
                  · refine Or.inr ⟨hjs2, D j, ?_, (HDG.out j hjs2).1⟩
                    rw [beq_eq_false_iff_ne]
                    intro e
                    exact hz ⟨hjs2, by omega⟩
                  · exact Or.inl hjs2
                clear hz
                rcases hq2 with hjs2 | ⟨hjs2, y, hy, cj⟩
                · by_cases hz0 : z = 0
                  · have hzI : ((z : Int) != 0) = false := by rw [hz0]; rfl
                    clear hz0
                    go_wp2
                    go_loopw [7, 8] (fun v7 v8 wq => ∃ jj ii : Nat, v8 = .int .i64 jj ∧ j ≤ jj ∧ jj ≤ s ∧ v7 = .int .i64 ii ∧ Hid (ii = z + (jj - j)) ∧ Hid (Dig wq w.heap.size base s D ∧ Bys wq w.heap.size N) ∧ Below w.heap.size w wq) (fun _ v8 _ => s - (intOf v8).toNat)
                    case atStart => exact ⟨j, z, rfl, Nat.le_refl _, hjs, rfl, Lib.hid (by omega), Lib.hid ⟨HDG.out, hby.out⟩, hbl⟩
                    case round =>
                      obtain ⟨jj, ii, rfl, hjj, hjjs, rfl, hii, hdb, hblq⟩ := hrel
                      by_cases hlt6 : jj < s
                      · have hiM : ii < M := by have := hii.out; have := HMM.out; omega
                        have hiB : ii < base := by have := HS.out; have := HMM.out; omega
                        obtain ⟨dcell, hd58⟩ := hdb.out.1 jj hlt6
                        generalize D jj = d at dcell hd58
                        obtain ⟨e, ecell⟩ : ∃ e : UInt8, wr.cell? ⟨q, 128 + d, none⟩ = some (.int .u8 e.toNat) := by
                          obtain ⟨hE, hat, _⟩ := HALL.out
                          exact ⟨E[d]'(by omega), (hblq.cell (p := ⟨q, 128 + d, none⟩) hqq).trans (hat d (by omega))⟩
                        obtain ⟨y6, c6, f6⟩ := hdb.out.2 ii (by omega)
                        have hdI : ((d : Int) < 58) = True := by simp; omega
                        go_wp2
                        go_region
                        go_wp2
                        exact ⟨⟨jj + 1, ii + 1, by go_num, by omega, by omega, by go_num, Lib.hid (by have := hii.out; omega), Lib.hid ⟨(hdb.out.1.set_low ii hiB _), (hdb.out.2.set ii e)⟩, (bset w.heap.size hblq (Nat.le_refl _) _ _).drew⟩, by simp [intOf]; omega⟩
                      · obtain ⟨t, ht, hcv⟩ := bys_string (bys_take hdb.out.2 hMN) N
                        go_wp2
                        go_ret
                        exact ⟨t, rfl, hblq⟩
                  · have hzI : ((z : Int) != 0) = true := by rw [bne_iff_ne]; omega
                    go_wp2
                    clear hzI hz0
                    go_loopw [7] (fun v7 wq => ∃ ii : Nat, v7 = .int .i64 ii ∧ ii ≤ z ∧ Hid (Dig wq w.heap.size base s D ∧ Bys wq w.heap.size N) ∧ Below w.heap.size w wq) (fun v7 _ => z - (intOf v7).toNat)
                    case atStart => exact ⟨0, rfl, Nat.zero_le _, Lib.hid ⟨HDG.out, hby.out⟩, hbl⟩
                    case round =>
                      clear hby hbl
                      have HDG0 := HDG
                      clear HDG
                      obtain ⟨ii, rfl, hiz, hdb, hbl⟩ := hrel
                      by_cases hlt5 : ii < z
                      · have hiM : ii < M := by have := HMM.out; omega
                        have hiB : ii < base := by have := HS.out; omega
                        obtain ⟨y5, c5, f5⟩ := hdb.out.2 ii (by omega)
                        go_wp2
                        exact ⟨⟨ii + 1, by go_num, by omega, Lib.hid ⟨hdb.out.1.set_low ii hiB _, hdb.out.2.set ii x0⟩, bset w.heap.size hbl (Nat.le_refl _) _ _⟩, by simp [intOf]; omega⟩
                      · have HDG := Lib.hid hdb.out.1
                        have hby := Lib.hid hdb.out.2
                        go_wp2
                        clear hlt5 hiz
                        go_loopw [7, 8] (fun v7 v8 wq => ∃ jj ii : Nat, v8 = .int .i64 jj ∧ j ≤ jj ∧ jj ≤ s ∧ v7 = .int .i64 ii ∧ Hid (ii = z + (jj - j)) ∧ Hid (Dig wq w.heap.size base s D ∧ Bys wq w.heap.size N) ∧ Below w.heap.size w wq) (fun _ v8 _ => s - (intOf v8).toNat)
                        case atStart => exact ⟨j, z, rfl, Nat.le_refl _, hjs, rfl, Lib.hid (by omega), Lib.hid ⟨HDG.out, hby.out⟩, hbl⟩
                        case round =>
                          obtain ⟨jj, ii, rfl, hjj, hjjs, rfl, hii, hdb, hblq⟩ := hrel
                          by_cases hlt6 : jj < s
                          · have hiM : ii < M := by have := hii.out; have := HMM.out; omega
                            have hiB : ii < base := by have := HS.out; have := HMM.out; omega
                            obtain ⟨dcell, hd58⟩ := hdb.out.1 jj hlt6
                            generalize D jj = d at dcell hd58
                            obtain ⟨e, ecell⟩ : ∃ e : UInt8, wr.cell? ⟨q, 128 + d, none⟩ = some (.int .u8 e.toNat) := by
                              obtain ⟨hE, hat, _⟩ := HALL.out
                              exact ⟨E[d]'(by omega), (hblq.cell (p := ⟨q, 128 + d, none⟩) hqq).trans (hat d (by omega))⟩
                            obtain ⟨y6, c6, f6⟩ := hdb.out.2 ii (by omega)
                            have hdI : ((d : Int) < 58) = True := by simp; omega
                            go_wp2
                            go_region
                            go_wp2
                            exact ⟨⟨jj + 1, ii + 1, by go_num, by omega, by omega, by go_num, Lib.hid (by have := hii.out; omega), Lib.hid ⟨(hdb.out.1.set_low ii hiB _), (hdb.out.2.set ii e)⟩, (bset w.heap.size hblq (Nat.le_refl _) _ _).drew⟩, by simp [intOf]; omega⟩
                          · obtain ⟨t, ht, hcv⟩ := bys_string (bys_take hdb.out.2 hMN) N
                            go_wp2
                            go_ret
                            exact ⟨t, rfl, hblq⟩
                · by_cases hz0 : z = 0
                  · have hzI : ((z : Int) != 0) = false := by rw [hz0]; rfl
                    clear hz0
                    go_wp2
                    go_loopw [7, 8] (fun v7 v8 wq => ∃ jj ii : Nat, v8 = .int .i64 jj ∧ j ≤ jj ∧ jj ≤ s ∧ v7 = .int .i64 ii ∧ Hid (ii = z + (jj - j)) ∧ Hid (Dig wq w.heap.size base s D ∧ Bys wq w.heap.size N) ∧ Below w.heap.size w wq) (fun _ v8 _ => s - (intOf v8).toNat)
                    case atStart => exact ⟨j, z, rfl, Nat.le_refl _, hjs, rfl, Lib.hid (by omega), Lib.hid ⟨HDG.out, hby.out⟩, hbl⟩
                    case round =>
                      obtain ⟨jj, ii, rfl, hjj, hjjs, rfl, hii, hdb, hblq⟩ := hrel
                      by_cases hlt6 : jj < s
                      · have hiM : ii < M := by have := hii.out; have := HMM.out; omega
                        have hiB : ii < base := by have := HS.out; have := HMM.out; omega
                        obtain ⟨dcell, hd58⟩ := hdb.out.1 jj hlt6
                        generalize D jj = d at dcell hd58
                        obtain ⟨e, ecell⟩ : ∃ e : UInt8, wr.cell? ⟨q, 128 + d, none⟩ = some (.int .u8 e.toNat) := by
                          obtain ⟨hE, hat, _⟩ := HALL.out
                          exact ⟨E[d]'(by omega), (hblq.cell (p := ⟨q, 128 + d, none⟩) hqq).trans (hat d (by omega))⟩
                        obtain ⟨y6, c6, f6⟩ := hdb.out.2 ii (by omega)
                        have hdI : ((d : Int) < 58) = True := by simp; omega
                        go_wp2
                        go_region
                        go_wp2
                        exact ⟨⟨jj + 1, ii + 1, by go_num, by omega, by omega, by go_num, Lib.hid (by have := hii.out; omega), Lib.hid ⟨(hdb.out.1.set_low ii hiB _), (hdb.out.2.set ii e)⟩, (bset w.heap.size hblq (Nat.le_refl _) _ _).drew⟩, by simp [intOf]; omega⟩
                      · obtain ⟨t, ht, hcv⟩ := bys_string (bys_take hdb.out.2 hMN) N
                        go_wp2
                        go_ret
                        exact ⟨t, rfl, hblq⟩
                  · have hzI : ((z : Int) != 0) = true := by rw [bne_iff_ne]; omega
                    go_wp2
                    clear hzI hz0
                    go_loopw [7] (fun v7 wq => ∃ ii : Nat, v7 = .int .i64 ii ∧ ii ≤ z ∧ Hid (Dig wq w.heap.size base s D ∧ Bys wq w.heap.size N) ∧ Below w.heap.size w wq) (fun v7 _ => z - (intOf v7).toNat)
                    case atStart => exact ⟨0, rfl, Nat.zero_le _, Lib.hid ⟨HDG.out, hby.out⟩, hbl⟩
                    case round =>
                      clear hby hbl
                      have HDG0 := HDG
                      clear HDG
                      obtain ⟨ii, rfl, hiz, hdb, hbl⟩ := hrel
                      by_cases hlt5 : ii < z
                      · have hiM : ii < M := by have := HMM.out; omega
                        have hiB : ii < base := by have := HS.out; omega
                        obtain ⟨y5, c5, f5⟩ := hdb.out.2 ii (by omega)
                        go_wp2
                        exact ⟨⟨ii + 1, by go_num, by omega, Lib.hid ⟨hdb.out.1.set_low ii hiB _, hdb.out.2.set ii x0⟩, bset w.heap.size hbl (Nat.le_refl _) _ _⟩, by simp [intOf]; omega⟩
                      · have HDG := Lib.hid hdb.out.1
                        have hby := Lib.hid hdb.out.2
                        go_wp2
                        clear hlt5 hiz
                        go_loopw [7, 8] (fun v7 v8 wq => ∃ jj ii : Nat, v8 = .int .i64 jj ∧ j ≤ jj ∧ jj ≤ s ∧ v7 = .int .i64 ii ∧ Hid (ii = z + (jj - j)) ∧ Hid (Dig wq w.heap.size base s D ∧ Bys wq w.heap.size N) ∧ Below w.heap.size w wq) (fun _ v8 _ => s - (intOf v8).toNat)
                        case atStart => exact ⟨j, z, rfl, Nat.le_refl _, hjs, rfl, Lib.hid (by omega), Lib.hid ⟨HDG.out, hby.out⟩, hbl⟩
                        case round =>
                          obtain ⟨jj, ii, rfl, hjj, hjjs, rfl, hii, hdb, hblq⟩ := hrel
                          by_cases hlt6 : jj < s
                          · have hiM : ii < M := by have := hii.out; have := HMM.out; omega
                            have hiB : ii < base := by have := HS.out; have := HMM.out; omega
                            obtain ⟨dcell, hd58⟩ := hdb.out.1 jj hlt6
                            generalize D jj = d at dcell hd58
                            obtain ⟨e, ecell⟩ : ∃ e : UInt8, wr.cell? ⟨q, 128 + d, none⟩ = some (.int .u8 e.toNat) := by
                              obtain ⟨hE, hat, _⟩ := HALL.out
                              exact ⟨E[d]'(by omega), (hblq.cell (p := ⟨q, 128 + d, none⟩) hqq).trans (hat d (by omega))⟩
                            obtain ⟨y6, c6, f6⟩ := hdb.out.2 ii (by omega)
                            have hdI : ((d : Int) < 58) = True := by simp; omega
                            go_wp2
                            go_region
                            go_wp2
                            exact ⟨⟨jj + 1, ii + 1, by go_num, by omega, by omega, by go_num, Lib.hid (by have := hii.out; omega), Lib.hid ⟨(hdb.out.1.set_low ii hiB _), (hdb.out.2.set ii e)⟩, (bset w.heap.size hblq (Nat.le_refl _) _ _).drew⟩, by simp [intOf]; omega⟩
                          · obtain ⟨t, ht, hcv⟩ := bys_string (bys_take hdb.out.2 hMN) N
                            go_wp2
                            go_ret
                            exact ⟨t, rfl, hblq⟩
end Go.Proofs.YtnpcmmjdojdmnaaGreatDoor
