/- ZZParseAddr, zzParseIP at a text of 128 bits; To4, To16, ip6StB. ZZIPString at sixteen bytes: the text is one that is read back. ZZIPString at sixteen bytes that do not map four. ZZIPString at four bytes: the text is a dotted quad that is read back; ip4BtS, ip6BtS. -/
import Derived.Test.YtnpcmmjdojdmnaaGreatDoorRc
import Derived.Test.YtnpcmmjdojdmnaaGreatDoorQq
import Derived.Shelf.SlSortCmp.QuietGrown
import Derived.Lib.SmallJoins
namespace Go.Proofs.YtnpcmmjdojdmnaaGreatDoor
open Go Go.RowKit

/-- A text of an address of 128 bits, and its groups. -/
structure V6 (s : ByteArray) (gs : List Nat) : Prop where
  size : s.size ≤ 1000
  parse : parse6 s.data.toList = some gs
  len : (groupBytes gs).length = 16
  chars : ∀ x ∈ s.data.toList, x.toNat ≠ 46 ∧ x.toNat ≠ 37
  colon : ∃ x ∈ s.data.toList, x.toNat = 58
  shape : (∃ r, s.data.toList = 58 :: 58 :: r) ∨ (∃ c d r, s.data.toList = c :: d :: r ∧ c.toNat ≠ 58)

theorem zzParse6 (s : ByteArray) (gs : List Nat) (h : V6 s gs) (w : World) :
    Calls Tryz.prog 340 #[.string s] w fun e w' => e = .returned (.tuple #[.agg (cellsArr (groupBytes gs)), .bool true]) ∧ Below w.heap.size w w' := by
  rcases h.shape with ⟨r, hr⟩ | ⟨c, d, r, hr, hc⟩
  · exact zzParse6_b s gs r hr h.parse w h.size
  · obtain ⟨h1, h2, h3⟩ := head_cons hr
    rw [List.length_cons] at h3
    exact zzParse6_a s gs h.parse (by omega) (by rw [h2]; exact hc) w h.size

theorem results279 (tmps : Array Value) (w : World) (g : Nat) (cs : Array Value) (a b : Bool) (hp : tmps.getD 2 undef = .pointer (some ⟨g, 0, none⟩)) (h3 : tmps.getD 3 undef = .bool a) (h4 : tmps.getD 4 undef = .bool b)
    (hg : w.heap[g]? = some (.cells cs 219 (0, 0))) (hi : (Tryz.prog.info? 219).map (·.size) = some cs.size) : (results Tryz.f279 tmps).run Tryz.prog w = .ok (.tuple #[.agg cs, .bool a, .bool b]) w := by
  have hp' : tmps[2]?.getD undef = .pointer (some ⟨g, 0, none⟩) := by simpa using hp
  have h3' : tmps[3]?.getD undef = .bool a := by simpa using h3
  have h4' : tmps[4]?.getD undef = .bool b := by simpa using h4
  simp [results, Tryz.results279, hp', h3', h4', asAddr, run_loadVar_row w g 219 219 cs (0, 0) _ hg Tryz.underlying219 rfl hi]

/-- Sixteen zeros. -/
abbrev zeros16 : Array Value := #[.int .u8 0, .int .u8 0, .int .u8 0, .int .u8 0, .int .u8 0, .int .u8 0, .int .u8 0, .int .u8 0, .int .u8 0, .int .u8 0, .int .u8 0, .int .u8 0, .int .u8 0, .int .u8 0, .int .u8 0, .int .u8 0]

set_option maxRecDepth 100000 in
set_option maxHeartbeats 8000000 in
theorem parseAddr6 (s : ByteArray) (gs : List Nat) (h : V6 s gs) (w : World) :
    Calls Tryz.prog 279 #[.string s] w fun e w' => e = .returned (.tuple #[.agg (cellsArr (groupBytes gs)), .bool false, .bool true]) ∧ Below w.heap.size w w' := by
  have hs := h.size
  have hch : Hid (∀ k (h : k < s.size), s[k].toNat ≠ 46 ∧ s[k].toNat ≠ 37) := Lib.hid fun k hk => h.chars s[k] (by
    have : s.data.toList[k]'(by rw [Array.length_toList]; exact hk) = s[k] := rfl
    rw [← this]; exact List.getElem_mem _)
  have hnd : Hid (¬ ∀ j (h : j < s.size), s[j].toNat ≠ 58) := Lib.hid fun hn => by
    obtain ⟨x, hx, h58⟩ := h.colon
    obtain ⟨j, hj, rfl⟩ := List.getElem_of_mem hx
    exact hn j (by rw [Array.length_toList] at hj; exact hj) h58
  have P6 := Lib.hid (fun wx => zzParse6 s gs h wx)
  have HC16 : Hid ((Tryz.prog.info? 219).map (·.size) = some (cellsArr (groupBytes gs)).size) := Lib.hid (by rw [cellsArr_size, h.len]; exact size219)
  clear h
  go_enter Tryz.func279, Tryz.ntmps279
  go_wp2
  go_loop [5] (fun v => ∃ k : Nat, v = .int .i64 k ∧ k ≤ s.size ∧ Hid (∀ j (h : j < s.size), j < k → s[j].toNat ≠ 58)) (fun v => s.size - (intOf v).toNat)
  case atStart => exact ⟨0, rfl, Nat.zero_le _, Lib.hid (fun _ _ h => by omega)⟩
  case round =>
    obtain ⟨k, rfl, hk, hall⟩ := hrel
    by_cases hlt : k < s.size
    · obtain ⟨c46, c37⟩ := hch.out k hlt
      by_cases h58 : s[k].toNat = 58
      · clear c46 c37
        go_wp2
        go_loop [6] (fun v => ∃ m : Nat, v = .int .i64 m ∧ m ≤ s.size) (fun v => s.size - (intOf v).toNat)
        case atStart => exact ⟨k, rfl, hk⟩
        case round =>
          obtain ⟨m, rfl, hm⟩ := hrel
          by_cases hlt2 : m < s.size
          · obtain ⟨-, d37⟩ := hch.out m hlt2
            have e1 : ((s[m].toNat : Int) == 37) = false := by rw [beq_eq_false_iff_ne]; omega
            clear d37
            go_wp2
            exact ⟨⟨m + 1, by go_num, by omega⟩, by simp [intOf]; omega⟩
          · go_wp2_with (go_at_call 340; with_reducible refine (P6.out _).mono ?_; rintro e w2 ⟨rfl, hb⟩; refine Hid.out ?_)
            refine Lib.hid ?_
            have hg1 : w2.heap[w.heap.size]? = some (.cells zeros16 219 (0, 0)) := (hb.block w.heap.size (by simp)).trans (heap_alloc_last w _)
            have H1 := Lib.hid hg1
            have H2 := Lib.hid (setRow_heap w2 w.heap.size _ (cellsArr (groupBytes gs)) _ _ hg1)
            have H3 := Lib.hid (setRow_heap _ w.heap.size _ (cellsArr (groupBytes gs)) _ _ H2.out)
            have HB : Below w.heap.size w w2 := ((Below.refl _ _).alloc (Nat.le_refl _) _).trans (hb.mono (by simp))
            have HB' := Lib.hid HB
            have HZ : Hid (zeros16.size = (cellsArr (groupBytes gs)).size) := Lib.hid (by
              have := HC16.out
              rw [size219] at this
              rw [← Option.some.inj this]; rfl)
            clear hg1 hb HB
            go_wp2_with (first
              | (refine wpList_store_row rfl 219 (.tmp 2) (.tmp 42) rfl w.heap.size _ rfl rfl 219 _ H1.out HC16.out HZ.out (cellsArr_one _) ?_)
              | (refine wpList_load_row rfl 219 (.tmp 2) rfl w.heap.size rfl 219 _ (0, 0) _ H2.out Tryz.underlying219 rfl HC16.out ?_)
              | (refine wpList_store_row rfl 219 (.tmp 2) (.tmp 44) rfl w.heap.size _ rfl rfl 219 _ H2.out HC16.out rfl (cellsArr_one _) ?_))
            refine bodyPost_ret (v := .tuple #[.agg _, .bool _, .bool _]) (results279 _ _ _ _ _ _ rfl rfl rfl H3.out HC16.out) rfl ⟨rfl, ?_⟩
            exact below_setRow (below_setRow HB'.out (Nat.le_refl _) _) (Nat.le_refl _) _
      · have e1 : ((s[k].toNat : Int) == 46) = false := by rw [beq_eq_false_iff_ne]; omega
        have e2 : ((s[k].toNat : Int) == 58) = false := by rw [beq_eq_false_iff_ne]; omega
        have e3 : ((s[k].toNat : Int) == 37) = false := by rw [beq_eq_false_iff_ne]; omega
        have H58 := Lib.hid h58; clear h58 c46 c37
        go_wp2
        refine ⟨⟨k + 1, by go_num, by omega, Lib.hid fun j h hj => ?_⟩, by simp [intOf]; omega⟩
        by_cases hjk : j < k
        · exact hall.out j h hjk
        · obtain rfl : j = k := by omega
          exact H58.out
    · exact absurd (fun j h => hall.out j h (by omega)) hnd.out

set_option maxRecDepth 100000 in
set_option maxHeartbeats 4000000 in
theorem parseIP6 (s : ByteArray) (gs : List Nat) (h : V6 s gs) (w : World) :
    Calls Tryz.prog 245 #[.string s] w fun e w' => ∃ w2, e = .returned (.slice (some ⟨w2.heap.size, 0, none⟩) 16 16) ∧ w' = w2.alloc (.cells (cellsArr (groupBytes gs)) 219) ∧ Below w.heap.size w w2 := by
  have HP := Lib.hid (parseAddr6 s gs h w)
  have HC16 : Hid ((Tryz.prog.info? 219).map (·.size) = some (cellsArr (groupBytes gs)).size) := Lib.hid (by rw [cellsArr_size, h.len]; exact size219)
  have HZ : Hid (zeros16.size = (cellsArr (groupBytes gs)).size) := Lib.hid (by
    have := HC16.out
    rw [size219] at this
    rw [← Option.some.inj this]; rfl)
  clear h
  go_enter Tryz.func245, Tryz.ntmps245
  go_wp2_with (first
    | (go_at_call 279; with_reducible refine HP.out.mono ?_; rintro e w2 ⟨rfl, hb⟩)
    | (refine wpList_store_row rfl 219 (.tmp 3) (.tmp 9) rfl w2.heap.size _ rfl rfl 219 _ (heap_alloc_last w2 _) HC16.out HZ.out (cellsArr_one _) ?_; rw [World.setRow_alloc_new]))
  go_ret
  exact ⟨w2, rfl, rfl, hb⟩

set_option maxRecDepth 100000 in
set_option maxHeartbeats 4000000 in
theorem to16_self (p : Option Addr) (cp : Nat) (w : World) : Calls Tryz.prog 101 #[.slice p 16 cp] w fun e w' => e = .returned (.slice p 16 cp) ∧ w = w' := by
  go_enter Tryz.func101, Tryz.ntmps101
  go_wp2
  go_ret
  exact ⟨rfl, rfl⟩

set_option maxRecDepth 100000 in
set_option maxHeartbeats 4000000 in
theorem isZeros (g o cp : Nat) (l : List UInt8) (w : World) (hl : l.length ≤ 1000) (h : At w g o l) :
    Calls Tryz.prog 158 #[.slice (some ⟨g, o, none⟩) l.length cp] w fun e w' => e = .returned (.bool (l.all fun x => x.toNat == 0)) ∧ w = w' := by
  have HA := Lib.hid h; clear h
  generalize hb : (l.all fun x => x.toNat == 0) = b
  have HB : Hid ((∀ k (h : k < l.length), l[k].toNat = 0) → b = true) := Lib.hid fun hz => by
    rw [← hb, List.all_eq_true]
    intro x hx
    obtain ⟨k, hk, rfl⟩ := List.getElem_of_mem hx
    simpa using hz k hk
  have HF : Hid (∀ k (h : k < l.length), l[k].toNat ≠ 0 → b = false) := Lib.hid fun k hk hz => by
    rw [← hb, List.all_eq_false]
    exact ⟨l[k], List.getElem_mem _, by simpa using hz⟩
  clear hb
  go_enter Tryz.func158, Tryz.ntmps158
  go_wp2
  go_loop [3] (fun v => ∃ k : Nat, v = .int .i64 k ∧ k ≤ l.length ∧ Hid (∀ j (h : j < l.length), j < k → l[j].toNat = 0)) (fun v => l.length - (intOf v).toNat)
  case atStart => exact ⟨0, rfl, Nat.zero_le _, Lib.hid (fun _ _ h => by omega)⟩
  case round =>
    obtain ⟨k, rfl, hk, hall⟩ := hrel
    by_cases hlt : k < l.length
    · have hc := HA.out k hlt
      by_cases h0 : l[k].toNat = 0
      · rw [h0] at hc
        have H0 := Lib.hid h0; clear h0
        go_wp2
        refine ⟨⟨k + 1, by go_num, by omega, Lib.hid fun j h hj => ?_⟩, by simp [intOf]; omega⟩
        by_cases hjk : j < k
        · exact hall.out j h hjk
        · obtain rfl : j = k := by omega
          exact H0.out
      · have hf := HF.out k hlt h0
        subst hf
        go_wp2
        go_ret
        exact ⟨rfl, rfl⟩
    · have hf := HB.out fun j h => hall.out j h (by omega)
      subst hf
      go_wp2
      go_ret
      exact ⟨rfl, rfl⟩

/-- An address of 128 bits that maps one of 32 bits. -/
def mapped (l : List UInt8) : Bool := (l.take 10).all (fun x => x.toNat == 0) && (l[10]?.any fun x => x.toNat == 255) && (l[11]?.any fun x => x.toNat == 255)

set_option maxRecDepth 100000 in
set_option maxHeartbeats 4000000 in
theorem to4_none (g o cp : Nat) (l : List UInt8) (w : World) (hl : l.length = 16) (hcp : 16 ≤ cp) (h : At w g o l) (hm : mapped l = false) :
    Calls Tryz.prog 97 #[.slice (some ⟨g, o, none⟩) 16 cp] w fun e w' => e = .returned (.slice none 0 0) ∧ w = w' := by
  have hZ : ∀ c, Calls Tryz.prog 158 #[.slice (some ⟨g, o, none⟩) 10 c] w fun e w' => e = .returned (.bool ((l.take 10).all fun x => x.toNat == 0)) ∧ w = w' := fun c => by
    have h10 : (l.take 10).length = 10 := by simp; omega
    have := isZeros g o c (l.take 10) w (by omega) (fun j hj => by rw [h j (by omega), List.getElem_take])
    rwa [h10] at this
  have c0 : w.cell? ⟨g, o + 10, none⟩ = some (.int .u8 l[10].toNat) := h 10 (by omega)
  have c1 : w.cell? ⟨g, o + 11, none⟩ = some (.int .u8 l[11].toNat) := h 11 (by omega)
  have hm' : ((l.take 10).all (fun x => x.toNat == 0) && (l[10].toNat == 255) && (l[11].toNat == 255)) = false := by
    have := hm
    rw [mapped, List.getElem?_eq_getElem (by omega : 10 < l.length), List.getElem?_eq_getElem (by omega : 11 < l.length)] at this
    simpa using this
  generalize ((l.take 10).all fun x => x.toNat == 0) = z at *
  generalize l[10].toNat = x at *
  generalize l[11].toNat = y at *
  have HZ := Lib.hid hZ; clear hZ h hm
  cases z with
  | false =>
    clear hm'
    go_enter Tryz.func97, Tryz.ntmps97
    go_wp2_with (go_at_call 158; with_reducible refine (HZ.out _).mono ?_; rintro e w2 ⟨rfl, rfl⟩)
    go_ret
    exact ⟨rfl, rfl⟩
  | true =>
    by_cases hx : x = 255
    · have hy : y ≠ 255 := by intro hy; subst hx hy; simp at hm'
      have ey : ((y : Int) == 255) = false := by rw [beq_eq_false_iff_ne]; omega
      subst hx
      clear hm' hy
      go_enter Tryz.func97, Tryz.ntmps97
      go_wp2_with (go_at_call 158; with_reducible refine (HZ.out _).mono ?_; rintro e w2 ⟨rfl, rfl⟩)
      go_ret
      exact ⟨rfl, rfl⟩
    · have ex : ((x : Int) == 255) = false := by rw [beq_eq_false_iff_ne]; omega
      clear hm' hx
      go_enter Tryz.func97, Tryz.ntmps97
      go_wp2_with (go_at_call 158; with_reducible refine (HZ.out _).mono ?_; rintro e w2 ⟨rfl, rfl⟩)
      go_ret
      exact ⟨rfl, rfl⟩

set_option maxRecDepth 100000 in
set_option maxHeartbeats 4000000 in
theorem ip6StB (s : ByteArray) (gs : List Nat) (h : V6 s gs) (l : List UInt8) (hl : groupBytes gs = l.map (·.toNat)) (w : World) :
    Calls Tryz.prog 206 #[.string s] w fun e w' => ∃ v, e = .returned (.tuple #[v, .nilIface]) ∧ NewB w.heap.size w' v l ∧ Below w.heap.size w w' := by
  have HP := Lib.hid (parseIP6 s gs h w)
  have hlen : l.length = 16 := by have := h.len; rw [hl, List.length_map] at this; exact this
  have HL := Lib.hid (And.intro hl hlen)
  clear h hl hlen
  have hnil : ∀ (w : World) (g : Nat), (binOp .eql 76 (.slice (some ⟨g, 0, none⟩) 16 16) (.slice none 0 0)).run Tryz.prog w = .ok (.bool false) w := fun w g => by
    simp [binOp, run_equal_slice_nil w 76 5 (some ⟨g, 0, none⟩) 16 16 Tryz.underlying76, Result.andThen]
  go_enter Tryz.func206, Tryz.ntmps206
  go_wp2_with (first
    | (go_at_call 245; with_reducible refine HP.out.mono ?_; rintro e w2 ⟨w3, rfl, rfl, hbe⟩)
    | (go_at_call 101; with_reducible refine (to16_self _ _ _).mono ?_; rintro e w4 ⟨rfl, rfl⟩))
  go_ret2
  obtain ⟨hl, hlen⟩ := HL.out
  refine ⟨_, rfl, ⟨w3.heap.size, 0, 16, by rw [hlen]; rfl, hbe.size, by simp, ?_⟩, hbe.alloc hbe.size _⟩
  intro j hj
  rw [World.cell?_alloc_new, Nat.zero_add, cellsArr_get, hl, List.getElem?_map, List.getElem?_eq_getElem hj]
  rfl
end Go.Proofs.YtnpcmmjdojdmnaaGreatDoor
namespace Go.Proofs.YtnpcmmjdojdmnaaGreatDoor
open Go Go.RowKit

/-- The i-th group of bytes. -/
def gnat (l : List UInt8) (i : Nat) : Nat := (l[2 * i]?.getD 0).toNat * 256 + (l[2 * i + 1]?.getD 0).toNat
theorem gnat_lt (l : List UInt8) (i : Nat) : gnat l i < 65536 := by
  have := (l[2 * i]?.getD 0).toNat_lt
  have := (l[2 * i + 1]?.getD 0).toNat_lt
  unfold gnat; omega
/-- The groups of sixteen bytes. -/
def groupsOf (l : List UInt8) : List Nat := (List.range 8).map (gnat l)
theorem groupsOf_len (l : List UInt8) : (groupsOf l).length = 8 := by simp [groupsOf]
theorem groupsOf_get (l : List UInt8) (i : Nat) (h : i < 8) : (groupsOf l)[i]? = some (gnat l i) := by
  rw [groupsOf, List.getElem?_map, List.getElem?_range h]; rfl
theorem groupsOf_lt (l : List UInt8) : ∀ g ∈ groupsOf l, g < 65536 := by
  intro g hg
  rw [groupsOf] at hg
  obtain ⟨i, _, rfl⟩ := List.mem_map.1 hg
  exact gnat_lt l i
theorem groupsOf_bytes (l : List UInt8) (h : l.length = 16) : groupBytes (groupsOf l) = l.map (·.toNat) := by
  match l, h with
  | [a0, a1, a2, a3, a4, a5, a6, a7, a8, a9, b0, b1, b2, b3, b4, b5], _ =>
    have d : ∀ x y : UInt8, (x.toNat * 256 + y.toNat) / 256 = x.toNat ∧ (x.toNat * 256 + y.toNat) % 256 = y.toNat := fun x y => by
      have := x.toNat_lt; have := y.toNat_lt; omega
    show groupBytes [a0.toNat * 256 + a1.toNat, a2.toNat * 256 + a3.toNat, a4.toNat * 256 + a5.toNat, a6.toNat * 256 + a7.toNat, a8.toNat * 256 + a9.toNat, b0.toNat * 256 + b1.toNat, b2.toNat * 256 + b3.toNat, b4.toNat * 256 + b5.toNat] = _
    simp only [groupBytes, (d _ _).1, (d _ _).2]
    rfl
/-- A run of zeros, or none. -/
def Run (gs : List Nat) (fr to : Nat) : Prop := (fr = 255 ∧ to = 255) ∨ (fr + 2 ≤ to ∧ to ≤ 8 ∧ ∀ j, fr ≤ j → j < to → gs[j]? = some 0)
theorem joinC_two (gs : List Nat) (h : 2 ≤ gs.length) : ∃ c d r, joinC gs = c :: d :: r ∧ c.toNat ≠ 58 := by
  match gs, h with
  | a :: b :: r, _ =>
    obtain ⟨x, t, hx, hj⟩ := joinC_head a (b :: r)
    cases t with
    | nil =>
      have h1 : (joinC (a :: b :: r)).length = 1 := by rw [hj]; rfl
      rw [joinC] at h1
      have := hexs_ne a
      have : (hexs a).length ≠ 0 := by rwa [Ne, List.length_eq_zero_iff]
      simp at h1; omega
    | cons d t => exact ⟨_, d, t, hj, hexDig_ne x hx⟩
theorem v6_fmt6 (l : List UInt8) (hl : l.length = 16) (fr to : Nat) (h : Run (groupsOf l) fr to) : V6 ⟨(fmt6 (groupsOf l) fr to).toArray⟩ (groupsOf l) := by
  have h8 := groupsOf_len l
  have hlt := groupsOf_lt l
  have hp := parse6_fmt6 (groupsOf l) fr to h8 hlt (by
    rcases h with ⟨h, _⟩ | h
    · exact Or.inl h
    · exact Or.inr h)
  refine ⟨?_, hp, by rw [groupsOf_bytes l hl]; simpa using hl, ?_, ⟨58, fmt6_colon _ _ _ h8, rfl⟩, ?_⟩
  · have := fmt6_len (groupsOf l) fr to h8 hlt
    show ((fmt6 (groupsOf l) fr to).toArray).size ≤ 1000
    rw [List.size_toArray]; omega
  · intro x hx
    rcases fmt6_chars _ _ _ x hx with ⟨d, hd, rfl⟩ | rfl
    · have : ∀ d : Fin 16, (hexDig d).toNat ≠ 46 ∧ (hexDig d).toNat ≠ 37 := by decide
      exact this ⟨d, hd⟩
    · decide
  · show (∃ r, fmt6 (groupsOf l) fr to = _) ∨ (∃ c d r, fmt6 (groupsOf l) fr to = _ ∧ _)
    rw [fmt6]
    by_cases hf : fr = 255
    · rw [if_pos hf]; exact Or.inr (joinC_two _ (by omega))
    · rw [if_neg hf]
      cases hL : (groupsOf l).take fr with
      | nil => exact Or.inl ⟨_, rfl⟩
      | cons a r =>
        right
        obtain ⟨x, t, hx, hj⟩ := joinC_head a r
        rw [hj]
        cases t with
        | nil => exact ⟨_, _, _, rfl, hexDig_ne x hx⟩
        | cons d t => exact ⟨_, _, _, rfl, hexDig_ne x hx⟩

set_option maxRecDepth 100000 in
set_option maxHeartbeats 4000000 in
theorem group (pb g o cp : Nat) (l : List UInt8) (hl : l.length = 16) (i : Nat) (hi : i < 8) (w : World) (hb : w.cell? ⟨pb, 0, none⟩ = some (.slice (some ⟨g, o, none⟩) 16 cp)) (h : At w g o l) :
    Calls Tryz.prog 162 #[.int .i64 i, .pointer (some ⟨pb, 0, none⟩)] w fun e w' => e = .returned (.int .i64 (gnat l i)) ∧ Below w.heap.size w w' := by
  have c0 : w.cell? ⟨g, o + 2 * i, none⟩ = some (.int .u8 (l[2 * i]?.getD 0).toNat) := by rw [List.getElem?_eq_getElem (by omega)]; exact h (2 * i) (by omega)
  have c1 : w.cell? ⟨g, o + (2 * i + 1), none⟩ = some (.int .u8 (l[2 * i + 1]?.getD 0).toNat) := by rw [List.getElem?_eq_getElem (by omega)]; exact h (2 * i + 1) (by omega)
  have hx := (l[2 * i]?.getD 0).toNat_lt
  have hy := (l[2 * i + 1]?.getD 0).toNat_lt
  have HG : Hid (gnat l i = (l[2 * i]?.getD 0).toNat * 256 + (l[2 * i + 1]?.getD 0).toNat) := Lib.hid rfl
  generalize (l[2 * i]?.getD 0).toNat = x at *
  generalize (l[2 * i + 1]?.getD 0).toNat = y at *
  clear h
  obtain ⟨a, ha⟩ : ∃ a, a = 2 * i := ⟨_, rfl⟩
  obtain ⟨b, hb'⟩ : ∃ b, b = 2 * i + 1 := ⟨_, rfl⟩
  rw [← hb'] at c1
  rw [← ha] at c0
  have q0 : IntKind.i64.wrap (2 * (i : Int)) = (a : Int) := by rw [IntWalk.i64_in _ (by omega)]; omega
  have q1 : IntKind.i64.wrap ((a : Int) + 1) = (b : Int) := by rw [IntWalk.i64_in _ (by omega)]; omega
  have q2 : (a : Int) < 16 := by omega
  have q3 : (b : Int) < 16 := by omega
  have q4 : IntKind.i64.wrap (x : Int) = (x : Int) := IntWalk.i64_in _ (by omega)
  have q5 : IntKind.i64.wrap (y : Int) = (y : Int) := IntWalk.i64_in _ (by omega)
  have q6 : IntKind.i64.wrap ((x : Int) * 256) = (x : Int) * 256 := IntWalk.i64_in _ (by omega)
  have q7 : bits .or .i64 ((x : Int) * 256) (y : Int) = ((x * 256 + y : Nat) : Int) := by
    have := i64_or_nat (x * 256) y (by omega) (by omega)
    rw [show ((x * 256 : Nat) : Int) = (x : Int) * 256 by omega] at this
    rw [this, Nat.mul_comm x 256, show (256 : Nat) = 2 ^ 8 from rfl, Nat.two_pow_add_eq_or_of_lt (by omega : y < 2 ^ 8)]
  clear ha hb'
  go_enter Tryz.func162, Tryz.ntmps162
  go_wp2
  go_region
  go_wp2
  go_ret
  exact ⟨ret_int (by rw [HG.out]; omega), (Below.refl _ _).drew⟩
end Go.Proofs.YtnpcmmjdojdmnaaGreatDoor
namespace Go.Proofs.YtnpcmmjdojdmnaaGreatDoor
open Go Go.RowKit

/-- What has been written ahead of the i-th group. -/
def Part (gs : List Nat) (fr to i : Nat) (t : ByteArray) : Prop :=
  ((fr = 255 ∨ i ≤ fr) ∧ t.data.toList = joinC (gs.take i)) ∨ (fr ≠ 255 ∧ to < i ∧ t.data.toList = joinC (gs.take fr) ++ [58, 58] ++ joinC ((gs.drop to).take (i - to)))
theorem app_list (a : ByteArray) (b : List UInt8) : (a ++ ⟨b.toArray⟩ : ByteArray).data.toList = a.data.toList ++ b := by
  rw [ByteArray.data_append, Array.toList_append]
theorem ba_ext {a : ByteArray} {l : List UInt8} (h : a.data.toList = l) : a = ⟨l.toArray⟩ := by
  apply ByteArray.ext
  apply Array.toList_inj.1
  exact h
theorem take_snoc6 {gs : List Nat} {i g : Nat} (h : gs[i]? = some g) : gs.take (i + 1) = gs.take i ++ [g] := by
  rw [List.take_add_one, h]; rfl
theorem Part.first {gs : List Nat} {fr to g : Nat} {t : ByteArray} (h : Part gs fr to 0 t) (hf : fr = 255 ∨ (0 < fr ∧ fr + 2 ≤ to)) (hg : gs[0]? = some g) : Part gs fr to 1 (t ++ ⟨(hexs g).toArray⟩) := by
  rcases h with ⟨_, h⟩ | ⟨_, h, _⟩
  · refine Or.inl ⟨by rcases hf with h | h; exact Or.inl h; exact Or.inr (by omega), ?_⟩
    rw [app_list, h, take_snoc6 (i := 0) hg, joinC_snoc, if_pos (by simp)]
    simp [joinC]
  · omega
theorem Part.next {gs : List Nat} {fr to i g : Nat} {t : ByteArray} (h8 : gs.length = 8) (h : Part gs fr to i t) (hi : 0 < i) (hne : i ≠ fr) (hg : gs[i]? = some g) : Part gs fr to (i + 1) (t ++ ⟨#[58]⟩ ++ ⟨(hexs g).toArray⟩) := by
  have hi8 : i < 8 := by
    by_cases hh : i < gs.length
    · omega
    · rw [List.getElem?_eq_none (by omega)] at hg; cases hg
  have e : (t ++ ⟨#[58]⟩ ++ ⟨(hexs g).toArray⟩ : ByteArray).data.toList = t.data.toList ++ 58 :: hexs g := by
    rw [app_list, show (⟨#[58]⟩ : ByteArray) = ⟨([58] : List UInt8).toArray⟩ from rfl, app_list]; simp
  rcases h with ⟨hf, h⟩ | ⟨hf, h1, h⟩
  · refine Or.inl ⟨by omega, ?_⟩
    rw [e, h, take_snoc6 hg, joinC_snoc, if_neg]
    intro hn
    have := congrArg List.length hn
    rw [List.length_take, List.length_nil] at this; omega
  · refine Or.inr ⟨hf, by omega, ?_⟩
    have hg2 : (gs.drop to)[i - to]? = some g := by rw [List.getElem?_drop, show to + (i - to) = i by omega]; exact hg
    rw [e, h, show i + 1 - to = (i - to) + 1 by omega, take_snoc6 hg2, joinC_snoc, if_neg]
    · simp
    · intro hn
      have := congrArg List.length hn
      rw [List.length_take, List.length_drop, List.length_nil] at this; omega
theorem Part.jump {gs : List Nat} {fr to g : Nat} {t : ByteArray} (h : Part gs fr to fr t) (hf : fr ≠ 255) (hft : fr + 2 ≤ to) (hg : gs[to]? = some g) : Part gs fr to (to + 1) (t ++ ⟨#[58, 58]⟩ ++ ⟨(hexs g).toArray⟩) := by
  have e : (t ++ ⟨#[58, 58]⟩ ++ ⟨(hexs g).toArray⟩ : ByteArray).data.toList = t.data.toList ++ [58, 58] ++ hexs g := by
    rw [app_list, show (⟨#[58, 58]⟩ : ByteArray) = ⟨([58, 58] : List UInt8).toArray⟩ from rfl, app_list]
  rcases h with ⟨_, h⟩ | ⟨_, h1, _⟩
  · refine Or.inr ⟨hf, by omega, ?_⟩
    have hg2 : (gs.drop to)[0]? = some g := by rw [List.getElem?_drop]; exact hg
    rw [e, h, show to + 1 - to = 0 + 1 by omega, take_snoc6 hg2, joinC_snoc, if_pos (by simp)]
  · omega
theorem Part.out8 {gs : List Nat} {fr to : Nat} {t : ByteArray} (h8 : gs.length = 8) (hr : Run gs fr to) (h : Part gs fr to 8 t) : t = ⟨(fmt6 gs fr to).toArray⟩ := by
  apply ba_ext
  rcases h with ⟨hf, h⟩ | ⟨hf, h1, h⟩
  · have : fr = 255 := by
      rcases hr with ⟨h, _⟩ | ⟨h1, h2, _⟩
      · exact h
      · omega
    rw [h, fmt6, if_pos this, List.take_of_length_le (by omega)]
  · have e : (gs.drop to).take (8 - to) = gs.drop to := List.take_of_length_le (by rw [List.length_drop]; omega)
    rw [h, e, fmt6, if_neg hf]
theorem Part.outJump {gs : List Nat} {fr : Nat} {t : ByteArray} (h8 : gs.length = 8) (hf : fr ≠ 255) (hft : fr + 2 ≤ 8) (h : Part gs fr 8 fr t) : t ++ ⟨#[58, 58]⟩ = (⟨(fmt6 gs fr 8).toArray⟩ : ByteArray) := by
  apply ba_ext
  rcases h with ⟨_, h⟩ | ⟨_, h1, h⟩
  · rw [show (⟨#[58, 58]⟩ : ByteArray) = ⟨([58, 58] : List UInt8).toArray⟩ from rfl, app_list, h, fmt6, if_neg hf, List.drop_of_length_le (by omega), joinC, List.append_nil]
  · omega
theorem hexs_size (g : Nat) (h : g < 65536) : (⟨(hexs g).toArray⟩ : ByteArray).size ≤ 4 := by
  show ((hexs g).toArray).size ≤ 4
  rw [List.size_toArray]
  exact hexs_len 3 g (by simpa using h)

/-- The walk's world: the box of the address, and its bytes. -/
structure Box (w0 : World) (pb g o cp : Nat) (l : List UInt8) (w : World) : Prop where
  box : w.cell? ⟨pb, 0, none⟩ = some (.slice (some ⟨g, o, none⟩) 16 cp)
  at_ : At w g o l
  below : Below (pb + 1) w0 w
  size : pb < w.heap.size
theorem Box.step {w0 : World} {pb g o cp : Nat} {l : List UInt8} {w w' : World} (h : Box w0 pb g o cp l w) (hg : g < pb) (hb : Below w.heap.size w w') : Box w0 pb g o cp l w' :=
  ⟨(hb.cell (p := ⟨pb, 0, none⟩) h.size).trans h.box, h.at_.below hb (by have := h.size; omega), h.below.trans (hb.mono (by have := h.size; omega)), Nat.lt_of_lt_of_le h.size hb.size⟩

set_option maxRecDepth 100000 in
set_option maxHeartbeats 16000000 in
theorem ipString6 (l : List UInt8) (hl : l.length = 16) (hm : mapped l = false) (g o cp : Nat) (hcp : 16 ≤ cp) (w : World) (h : At w g o l) :
    Calls Tryz.prog 99 #[.slice (some ⟨g, o, none⟩) 16 cp] w fun e w' => ∃ s, e = .returned (.string s) ∧ V6 s (groupsOf l) ∧ Below w.heap.size w w' := by
  have hg : g < w.heap.size := h.lt (by omega)
  have H4 := Lib.hid (fun wx hx => to4_none g o cp l wx hl hcp hx hm)
  have HB0 : Hid (Box (w.alloc (.cells #[.slice (some ⟨g, o, none⟩) 16 cp] 76)) w.heap.size g o cp l (w.alloc (.cells #[.slice (some ⟨g, o, none⟩) 16 cp] 76))) :=
    Lib.hid ⟨by simp [go_sem], h.below ((Below.refl _ _).alloc (Nat.le_refl _) _) hg, Below.refl _ _, by simp⟩
  have HV := Lib.hid (v6_fmt6 l hl)
  have HG := Lib.hid (fun i (hi : i < 8) (wx : World) (hx : Box (w.alloc (.cells #[.slice (some ⟨g, o, none⟩) 16 cp] 76)) w.heap.size g o cp l wx) => group w.heap.size g o cp l hl i hi wx hx.box hx.at_)
  have HGS := Lib.hid (groupsOf_get l)
  have h8 := Lib.hid (groupsOf_len l)
  have HLT := Lib.hid (fun i => gnat_lt l i)
  clear h hm
  generalize groupsOf l = gs at *
  go_enter Tryz.func99, Tryz.ntmps99
  go_wp2_with (go_at_call 97; with_reducible refine (H4.out _ HB0.out.at_).mono ?_; rintro e w2 ⟨rfl, rfl⟩)
  go_loopw [8, 9, 10] (fun v8 v9 v10 wr => ∃ fr to i : Nat, v8 = .int .i64 fr ∧ v9 = .int .i64 to ∧ v10 = .int .i64 i ∧ i ≤ 8 ∧ Hid (Run gs fr to) ∧ fr ≤ to ∧ to ≤ 255 ∧ Hid (Box (w.alloc (.cells #[.slice (some ⟨g, o, none⟩) 16 cp] 76)) w.heap.size g o cp l wr)) (fun _ _ v10 _ => 8 - (intOf v10).toNat)
  case atStart => exact ⟨255, 255, 0, rfl, rfl, rfl, by omega, Lib.hid (Or.inl ⟨rfl, rfl⟩), by omega, by omega, HB0⟩
  case round =>
    obtain ⟨fr, to, i, rfl, rfl, rfl, hi8, hrun, hft, hto, hbx0⟩ := hrel
    by_cases hi : i < 8
    · have ci : decide ((i : Int) < 8) = true := by simp; omega
      obtain ⟨wo, hwo⟩ : ∃ wo : World, wo = wr := ⟨_, rfl⟩
      subst hwo
      go_wp2
      go_loopw [11] (fun v11 wr => ∃ j : Nat, v11 = .int .i64 j ∧ i ≤ j ∧ j ≤ 8 ∧ Hid (∀ k, i ≤ k → k < j → gs[k]? = some 0) ∧ Hid (Box (w.alloc (.cells #[.slice (some ⟨g, o, none⟩) 16 cp] 76)) w.heap.size g o cp l wr)) (fun v11 _ => 8 - (intOf v11).toNat)
      case atStart => exact ⟨i, rfl, Nat.le_refl _, by omega, Lib.hid (by intros; omega), hbx0⟩
      case round =>
        obtain ⟨j, rfl, hij, hj8, hz, hbx⟩ := hrel
        by_cases hj : j < 8
        · by_cases h0 : gnat l j = 0
          · have HGj : Hid (Calls Tryz.prog 162 #[.int .i64 j, .pointer (some ⟨w.heap.size, 0, none⟩)] wr fun e w' => e = .returned (.int .i64 0) ∧ Below wr.heap.size wr w') := Lib.hid (by have := HG.out j hj wr hbx.out; rw [h0] at this; exact this)
            have hgj := HGS.out j hj
            rw [h0] at hgj
            have HJ := Lib.hid hgj; clear hgj h0
            go_wp2_with (go_at_call 162; with_reducible refine HGj.out.mono ?_; rintro e w2 ⟨rfl, hb⟩)
            go_wp2
            refine ⟨⟨j + 1, by go_num, by omega, by omega, Lib.hid ?_, Lib.hid (hbx.out.step hg hb)⟩, by simp [intOf]; omega⟩
            intro k hk1 hk2
            by_cases hkj : k < j
            · exact hz.out k hk1 hkj
            · obtain rfl : k = j := by omega
              exact HJ.out
          · have HGj : Hid (Calls Tryz.prog 162 #[.int .i64 j, .pointer (some ⟨w.heap.size, 0, none⟩)] wr fun e w' => e = .returned (.int .i64 (gnat l j)) ∧ Below wr.heap.size wr w') := Lib.hid (HG.out j hj wr hbx.out)
            have e0' : ((gnat l j : Int) == 0) = false := by rw [beq_eq_false_iff_ne]; omega
            clear h0
            obtain ⟨d, hd⟩ : ∃ d, d = j - i := ⟨_, rfl⟩
            obtain ⟨e0, he0⟩ : ∃ e, e = to - fr := ⟨_, rfl⟩
            have q1 : IntKind.i64.wrap ((j : Int) - (i : Int)) = (d : Int) := by rw [IntWalk.i64_in _ (by omega)]; omega
            have q2 : IntKind.i64.wrap ((to : Int) - (fr : Int)) = (e0 : Int) := by rw [IntWalk.i64_in _ (by omega)]; omega
            have HD := Lib.hid (And.intro hd he0); clear hd he0
            by_cases hd2 : 2 ≤ d
            · by_cases hde : e0 < d
              · go_wp2_with (go_at_call 162; with_reducible refine HGj.out.mono ?_; rintro e w2 ⟨rfl, hb⟩)
                go_wp2
                have hd := HD.out.1
                refine ⟨⟨i, j, i + 1, rfl, rfl, by go_num, by omega, Lib.hid (Or.inr ⟨by omega, by omega, hz.out⟩), by omega, by omega, Lib.hid (hbx.out.step hg hb)⟩, by simp [intOf]; omega⟩
              · go_wp2_with (go_at_call 162; with_reducible refine HGj.out.mono ?_; rintro e w2 ⟨rfl, hb⟩)
                go_wp2
                refine ⟨⟨fr, to, i + 1, rfl, rfl, by go_num, by omega, hrun, by omega, by omega, Lib.hid (hbx.out.step hg hb)⟩, by simp [intOf]; omega⟩
            · go_wp2_with (go_at_call 162; with_reducible refine HGj.out.mono ?_; rintro e w2 ⟨rfl, hb⟩)
              go_wp2
              refine ⟨⟨fr, to, i + 1, rfl, rfl, by go_num, by omega, hrun, by omega, by omega, Lib.hid (hbx.out.step hg hb)⟩, by simp [intOf]; omega⟩
        · have hnj := hj
          obtain ⟨d, hd⟩ : ∃ d, d = j - i := ⟨_, rfl⟩
          obtain ⟨e0, he0⟩ : ∃ e, e = to - fr := ⟨_, rfl⟩
          have q1 : IntKind.i64.wrap ((j : Int) - (i : Int)) = (d : Int) := by rw [IntWalk.i64_in _ (by omega)]; omega
          have q2 : IntKind.i64.wrap ((to : Int) - (fr : Int)) = (e0 : Int) := by rw [IntWalk.i64_in _ (by omega)]; omega
          have HD := Lib.hid (And.intro hd he0); clear hd he0
          by_cases hd2 : 2 ≤ d
          · by_cases hde : e0 < d
            · go_wp2
              have hd := HD.out.1
              refine ⟨⟨i, j, i + 1, rfl, rfl, by go_num, by omega, Lib.hid (Or.inr ⟨by omega, by omega, hz.out⟩), by omega, by omega, Lib.hid hbx.out⟩, by simp [intOf]; omega⟩
            · go_wp2
              refine ⟨⟨fr, to, i + 1, rfl, rfl, by go_num, by omega, hrun, by omega, by omega, Lib.hid hbx.out⟩, by simp [intOf]; omega⟩
          · go_wp2
            refine ⟨⟨fr, to, i + 1, rfl, rfl, by go_num, by omega, hrun, by omega, by omega, Lib.hid hbx.out⟩, by simp [intOf]; omega⟩
    · go_wp2
      go_loopw [13, 14] (fun v13 v14 wr => ∃ (t : ByteArray) (i : Nat), v13 = .string t ∧ v14 = .int .i64 i ∧ i ≤ 8 ∧ t.size ≤ 6 * i ∧ Hid (Part gs fr to i t) ∧ Hid (Box (w.alloc (.cells #[.slice (some ⟨g, o, none⟩) 16 cp] 76)) w.heap.size g o cp l wr)) (fun _ v14 _ => 8 - (intOf v14).toNat)
      case atStart => exact ⟨⟨#[]⟩, 0, rfl, rfl, by omega, Nat.le_refl 0, Lib.hid (Or.inl ⟨Or.inr (Nat.zero_le _), rfl⟩), hbx0⟩
      case round =>
        obtain ⟨t, i, rfl, rfl, hi8, ht, hpart, hbx⟩ := hrel
        by_cases hi : i < 8
        · by_cases hif : i = fr
          · obtain ⟨hr1, hr2⟩ : fr + 2 ≤ to ∧ to ≤ 8 := by
              rcases hrun.out with ⟨h, _⟩ | ⟨h1, h2, _⟩
              · omega
              · exact ⟨h1, h2⟩
            have e1 : ((i : Int) == (fr : Int)) = true := by rw [hif]; simp
            have f1 : ¬ 9223372036854775807 < t.size + 2 := by omega
            by_cases h8t : to = 8
            · have c8 : 8 ≤ to := by omega
              have HP := Lib.hid (And.intro hpart.out (And.intro hif h8t)); clear hpart hif h8t
              go_wp2
              go_ret
              obtain ⟨hp, hif, h8t⟩ := HP.out
              subst hif h8t
              exact ⟨_, rfl, by rw [Part.outJump h8.out (by omega) (by omega) hp]; exact HV.out _ _ hrun.out, ((Below.refl _ _).alloc (Nat.le_refl _) _).trans (hbx.out.below.mono (by omega))⟩
            · have c8 : ¬ 8 ≤ to := by omega
              have hto8 : to < 8 := by omega
              have hgt := Lib.hid (HGS.out to hto8)
              have HGj : Hid (Calls Tryz.prog 162 #[.int .i64 to, .pointer (some ⟨w.heap.size, 0, none⟩)] wr fun e w' => e = .returned (.int .i64 (gnat l to)) ∧ Below wr.heap.size wr w') := Lib.hid (HG.out to hto8 wr hbx.out)
              obtain ⟨H, hH, hHs⟩ : ∃ H : ByteArray, H = ⟨(hexs (gnat l to)).toArray⟩ ∧ H.size ≤ 4 := ⟨_, rfl, hexs_size _ (HLT.out to)⟩
              have HX : Hid (∀ wx, Calls Tryz.prog 160 #[.int .i64 (gnat l to)] wx fun e w' => e = .returned (.string H) ∧ wx = w') := Lib.hid (fun wx => by rw [hH]; exact zzHex _ (HLT.out to) wx)
              have f2 : ¬ 9223372036854775807 < t.size + 2 + H.size := by omega
              have HP := Lib.hid (And.intro hpart.out (And.intro hif hH)); clear hpart hif hH h8t
              go_wp2_with (first
                | (go_at_call 162; with_reducible refine HGj.out.mono ?_; rintro e w2 ⟨rfl, hb⟩)
                | (go_at_call 160; with_reducible refine (HX.out _).mono ?_; rintro e w3 ⟨rfl, rfl⟩))
              go_wp2
              obtain ⟨hp, hif, hH⟩ := HP.out
              subst hif hH
              refine ⟨⟨_, to + 1, rfl, by go_num, by omega, ?_, Lib.hid (Part.jump hp (by omega) hr1 hgt.out), Lib.hid (hbx.out.step hg hb)⟩, by simp [intOf]; omega⟩
              rw [ByteArray.size_append, ByteArray.size_append]
              have : (⟨#[58, 58]⟩ : ByteArray).size = 2 := rfl
              omega
          · have e1 : ((i : Int) == (fr : Int)) = false := by rw [beq_eq_false_iff_ne]; omega
            have hgt := Lib.hid (HGS.out i hi)
            have HGj : Hid (Calls Tryz.prog 162 #[.int .i64 i, .pointer (some ⟨w.heap.size, 0, none⟩)] wr fun e w' => e = .returned (.int .i64 (gnat l i)) ∧ Below wr.heap.size wr w') := Lib.hid (HG.out i hi wr hbx.out)
            obtain ⟨H, hH, hHs⟩ : ∃ H : ByteArray, H = ⟨(hexs (gnat l i)).toArray⟩ ∧ H.size ≤ 4 := ⟨_, rfl, hexs_size _ (HLT.out i)⟩
            have HX : Hid (∀ wx, Calls Tryz.prog 160 #[.int .i64 (gnat l i)] wx fun e w' => e = .returned (.string H) ∧ wx = w') := Lib.hid (fun wx => by rw [hH]; exact zzHex _ (HLT.out i) wx)
            have f1 : ¬ 9223372036854775807 < t.size + 1 := by omega
            have f2 : ¬ 9223372036854775807 < t.size + 1 + H.size := by omega
            have f3 : ¬ 9223372036854775807 < t.size + H.size := by omega
            have HP := Lib.hid (And.intro hpart.out (And.intro hif hH)); clear hpart hif hH
            by_cases h0 : 0 < i
            · go_wp2_with (first
                | (go_at_call 162; with_reducible refine HGj.out.mono ?_; rintro e w2 ⟨rfl, hb⟩)
                | (go_at_call 160; with_reducible refine (HX.out _).mono ?_; rintro e w3 ⟨rfl, rfl⟩))
              go_wp2
              obtain ⟨hp, hif, hH⟩ := HP.out
              subst hH
              refine ⟨⟨_, i + 1, rfl, by go_num, by omega, ?_, Lib.hid (Part.next h8.out hp h0 hif hgt.out), Lib.hid (hbx.out.step hg hb)⟩, by simp [intOf]; omega⟩
              rw [ByteArray.size_append, ByteArray.size_append]
              have : (⟨#[58]⟩ : ByteArray).size = 1 := rfl
              omega
            · go_wp2_with (first
                | (go_at_call 162; with_reducible refine HGj.out.mono ?_; rintro e w2 ⟨rfl, hb⟩)
                | (go_at_call 160; with_reducible refine (HX.out _).mono ?_; rintro e w3 ⟨rfl, rfl⟩))
              go_wp2
              obtain ⟨hp, hif, hH⟩ := HP.out
              subst hH
              obtain rfl : i = 0 := by omega
              refine ⟨⟨_, 1, rfl, rfl, by omega, ?_, Lib.hid (Part.first hp ?_ hgt.out), Lib.hid (hbx.out.step hg hb)⟩, by simp [intOf]⟩
              · rw [ByteArray.size_append]; omega
              · rcases hrun.out with ⟨h, _⟩ | ⟨h1, h2, _⟩
                · exact Or.inl h
                · exact Or.inr ⟨by omega, h1⟩
        · go_wp2
          go_ret
          obtain rfl : i = 8 := by omega
          exact ⟨_, rfl, by rw [Part.out8 h8.out hrun.out hpart.out]; exact HV.out _ _ hrun.out, ((Below.refl _ _).alloc (Nat.le_refl _) _).trans (hbx.out.below.mono (by omega))⟩
end Go.Proofs.YtnpcmmjdojdmnaaGreatDoor
namespace Go.Proofs.YtnpcmmjdojdmnaaGreatDoor
open Go Go.RowKit Go.Sort

/-- The table of powers of ten lies in a world. -/
def Tab (w : World) : Prop := Lib.TabIs Tryz.prog w "internal/strconv.uint64pow10" .u64 Lib.pow10Tab
theorem Tab.below {w w' : World} {B : Nat} (h : Tab w) (hb : Below B w w') (hB : w.heap.size ≤ B) : Tab w' :=
  _root_.Go.Joins.tab_stays (g := (Tryz.prog.globalNamed "internal/strconv.uint64pow10").getD 0) (by kernel_rfl) h hb hB
theorem below_grow {B : Nat} {a w : World} (h : Below B a w) (hB : B ≤ w.heap.size) (os : Array Obj) : Below B a (grow w os) :=
  h.trans ⟨rfl, rfl, rfl, by simp [grow], fun k hk => by show (w.heap ++ os)[k]? = _; rw [Array.getElem?_append_left (by omega)]⟩

theorem digit_nat (d : Nat) (h : d < 10) : (UInt8.ofNat (48 + d)).toNat = 48 + d := by simp; omega
/-- A number's digits are read. -/
theorem quad_digits (x : Nat) (hx : x < 256) (f pd : Bool) (outs : List Nat) (rest : List UInt8) : ∃ k, quadR (Lib.decDigits x ++ rest) f pd 0 0 outs = quadR rest false false x k outs := by
  have step : ∀ (d v dig : Nat) (f pd : Bool) (r : List UInt8), d < 10 → ¬ (dig = 1 ∧ v = 0) → v * 10 + d < 256 → quadR (UInt8.ofNat (48 + d) :: r) f pd v dig outs = quadR r false false (v * 10 + d) (dig + 1) outs := by
    intro d v dig f pd r hd hz h255
    rw [quadR, digit_nat d hd, if_pos (by omega), if_neg hz, if_neg (by omega), show v * 10 + (48 + d) - 48 = v * 10 + d by omega]
  by_cases h1 : x < 10
  · rw [Lib.decDigits_one h1, List.cons_append, List.nil_append, step x 0 0 f pd rest h1 (by omega) (by omega), Nat.zero_mul, Nat.zero_add]
    exact ⟨_, rfl⟩
  · by_cases h2 : x < 100
    · rw [Lib.decDigits_two h1 h2, List.cons_append, List.cons_append, List.nil_append, step (x / 10) 0 0 f pd _ (by omega) (by omega) (by omega), step (x % 10) _ _ _ _ _ (by omega) (by omega) (by omega)]
      rw [show (0 * 10 + x / 10) * 10 + x % 10 = x by omega]
      exact ⟨_, rfl⟩
    · rw [Lib.decDigits, dif_neg h1, Lib.decDigits_two (by omega : ¬ x / 10 < 10) (by omega)]
      simp only [List.cons_append, List.nil_append]
      rw [step (x / 10 / 10) 0 0 f pd _ (by omega) (by omega) (by omega), step (x / 10 % 10) _ _ _ _ _ (by omega) (by omega) (by omega), step (x % 10) _ _ _ _ _ (by omega) (by omega) (by omega)]
      rw [show ((0 * 10 + x / 10 / 10) * 10 + x / 10 % 10) * 10 + x % 10 = x by omega]
      exact ⟨_, rfl⟩
theorem decDigits_ne (x : Nat) : Lib.decDigits x ≠ [] := by
  rw [Lib.decDigits]; split <;> simp
theorem quad_dot (r : List UInt8) (v k : Nat) (outs : List Nat) (hr : r ≠ []) (ho : outs.length ≠ 3) : quadR (46 :: r) false false v k outs = quadR r false true 0 0 (outs ++ [v]) := by
  rw [quadR, if_neg (by decide), if_pos (by decide), if_neg]
  intro h
  rcases h with h | h | h | h
  · cases h
  · exact hr h
  · cases h
  · exact ho h
/-- The text of four numbers. -/
def quadT (a b c d : Nat) : List UInt8 := Lib.decDigits a ++ 46 :: (Lib.decDigits b ++ 46 :: (Lib.decDigits c ++ 46 :: Lib.decDigits d))
theorem quadR_quadT (a b c d : Nat) (ha : a < 256) (hb : b < 256) (hc : c < 256) (hd : d < 256) : quadR (quadT a b c d) true false 0 0 [] = some [a, b, c, d] := by
  have n1 : ∀ (x : Nat) (t : List UInt8), Lib.decDigits x ++ t ≠ [] := fun x t h => decDigits_ne x (List.append_eq_nil_iff.1 h).1
  obtain ⟨k1, e1⟩ := quad_digits a ha true false [] (46 :: (Lib.decDigits b ++ 46 :: (Lib.decDigits c ++ 46 :: Lib.decDigits d)))
  obtain ⟨k2, e2⟩ := quad_digits b hb false true [a] (46 :: (Lib.decDigits c ++ 46 :: Lib.decDigits d))
  obtain ⟨k3, e3⟩ := quad_digits c hc false true [a, b] (46 :: Lib.decDigits d)
  obtain ⟨k4, e4⟩ := quad_digits d hd false true [a, b, c] []
  rw [List.append_nil] at e4
  rw [quadT, e1, quad_dot _ _ _ _ (n1 _ _) (by simp)]
  show quadR _ false true 0 0 [a] = _
  rw [e2, quad_dot _ _ _ _ (n1 _ _) (by simp)]
  show quadR _ false true 0 0 [a, b] = _
  rw [e3, quad_dot _ _ _ _ (decDigits_ne d) (by simp)]
  show quadR _ false true 0 0 [a, b, c] = _
  rw [e4, quadR]; rfl
theorem digits3 (x : Nat) (hx : x < 256) : (Lib.decDigits x).length ≤ 3 := by
  rw [Lib.decDigits]
  split
  · simp
  · rename_i h
    have : (Lib.decDigits (x / 10)).length ≤ 2 := by
      by_cases h1 : x / 10 < 10
      · rw [Lib.decDigits_one h1]; simp
      · rw [Lib.decDigits_two h1 (by omega)]; simp
    simp; omega

set_option maxRecDepth 100000 in
set_option maxHeartbeats 4000000 in
theorem ipString4' (a b c d : UInt8) (g o cp : Nat) (w : World) (htab : Tab w) (h : At w g o [a, b, c, d]) :
    Calls Tryz.prog 99 #[.slice (some ⟨g, o, none⟩) 4 cp] w fun e w' => e = .returned (.string ⟨(quadT a.toNat b.toNat c.toNat d.toNat).toArray⟩) ∧ Below w.heap.size w w' := by
  have hg := h.lt (by simp)
  have hbw : Below w.heap.size w (w.alloc (.cells #[.slice (some ⟨g, o, none⟩) 4 cp] 76)) := (Below.refl _ _).alloc (Nat.le_refl _) _
  have h1 : At (w.alloc (.cells #[.slice (some ⟨g, o, none⟩) 4 cp] 76)) g o [a, b, c, d] := h.below hbw hg
  have ht1 : Tab (w.alloc (.cells #[.slice (some ⟨g, o, none⟩) 4 cp] 76)) := htab.below hbw (Nat.le_refl _)
  have hI : ∀ x : UInt8, ∃ t : ByteArray, t = ⟨(Lib.decDigits x.toNat).toArray⟩ ∧ t.size ≤ 3 ∧ Hid (∀ n os, Calls Tryz.prog 161 #[.int .i64 x.toNat] (grow ((w.alloc (.cells #[.slice (some ⟨g, o, none⟩) 4 cp] 76)).drewN n) os) fun e w' => e = .returned (.string t) ∧ ∃ q os', w' = grow ((grow ((w.alloc (.cells #[.slice (some ⟨g, o, none⟩) 4 cp] 76)).drewN n) os).drewN q) os') :=
    fun x => ⟨_, rfl, (by show (Lib.decDigits x.toNat).toArray.size ≤ 3; rw [List.size_toArray]; exact digits3 x.toNat x.toNat_lt), Lib.hid fun n os => by
      have ht : Tab (grow ((w.alloc (.cells #[.slice (some ⟨g, o, none⟩) 4 cp] 76)).drewN n) os) := ht1.below (below_grow (below_drewN (Below.refl (w.alloc (.cells #[.slice (some ⟨g, o, none⟩) 4 cp] 76)).heap.size _) n) (Nat.le_refl _) os) (Nat.le_refl _)
      have := Tryz.strconv_Itoa (x.toNat : Int) (by omega) (by have := x.toNat_lt; omega) _ ht
      rwa [Lib.itoa_nonneg] at this⟩
  obtain ⟨t1, z1, s1, i1⟩ := hI a
  obtain ⟨t2, z2, s2, i2⟩ := hI b
  obtain ⟨t3, z3, s3, i3⟩ := hI c
  obtain ⟨t4, z4, s4, i4⟩ := hI d
  have c0 : ∀ n os, (grow ((w.alloc (.cells #[.slice (some ⟨g, o, none⟩) 4 cp] 76)).drewN n) os).cell? ⟨g, o, none⟩ = some (.int .u8 a.toNat) := cell_grown (by simp; omega) (h1 0 (by simp))
  have c1 : ∀ n os, (grow ((w.alloc (.cells #[.slice (some ⟨g, o, none⟩) 4 cp] 76)).drewN n) os).cell? ⟨g, o + 1, none⟩ = some (.int .u8 b.toNat) := cell_grown (by simp; omega) (h1 1 (by simp))
  have c2 : ∀ n os, (grow ((w.alloc (.cells #[.slice (some ⟨g, o, none⟩) 4 cp] 76)).drewN n) os).cell? ⟨g, o + 2, none⟩ = some (.int .u8 c.toNat) := cell_grown (by simp; omega) (h1 2 (by simp))
  have c3 : ∀ n os, (grow ((w.alloc (.cells #[.slice (some ⟨g, o, none⟩) 4 cp] 76)).drewN n) os).cell? ⟨g, o + 3, none⟩ = some (.int .u8 d.toNat) := cell_grown (by simp; omega) (h1 3 (by simp))
  have HT : Hid (t1 ++ ⟨#[46]⟩ ++ t2 ++ ⟨#[46]⟩ ++ t3 ++ ⟨#[46]⟩ ++ t4 = (⟨(quadT a.toNat b.toNat c.toNat d.toNat).toArray⟩ : ByteArray)) := Lib.hid (by
    apply ba_ext
    have e46 : (⟨#[46]⟩ : ByteArray) = ⟨([46] : List UInt8).toArray⟩ := rfl
    rw [z2, z3, z4, e46, app_list, app_list, app_list, app_list, app_list, app_list, z1, quadT]
    simp)
  have ha := a.toNat_lt
  have hb := b.toNat_lt
  have hc := c.toNat_lt
  have hd := d.toNat_lt
  clear z1 z2 z3 z4 hI h h1 ht1 htab
  generalize a.toNat = na at *
  generalize b.toNat = nb at *
  generalize c.toNat = nc at *
  generalize d.toNat = nd at *
  have q1 : IntKind.i64.wrap (na : Int) = na := IntWalk.i64_in _ (by omega)
  have q2 : IntKind.i64.wrap (nb : Int) = nb := IntWalk.i64_in _ (by omega)
  have q3 : IntKind.i64.wrap (nc : Int) = nc := IntWalk.i64_in _ (by omega)
  have q4 : IntKind.i64.wrap (nd : Int) = nd := IntWalk.i64_in _ (by omega)
  have f1 : ¬ 9223372036854775807 < t1.size + 1 := by omega
  have f2 : ¬ 9223372036854775807 < t1.size + 1 + t2.size := by omega
  have f3 : ¬ 9223372036854775807 < t1.size + 1 + t2.size + 1 := by omega
  have f4 : ¬ 9223372036854775807 < t1.size + 1 + t2.size + 1 + t3.size := by omega
  have f5 : ¬ 9223372036854775807 < t1.size + 1 + t2.size + 1 + t3.size + 1 := by omega
  have f6 : ¬ 9223372036854775807 < t1.size + 1 + t2.size + 1 + t3.size + 1 + t4.size := by omega
  have hm : Tryz.prog.follows .mixedOrders = true := by kernel_rfl
  have HB := Lib.hid hbw
  clear ha hb hc hd s1 s2 s3 s4 hbw
  go_enter Tryz.func99, Tryz.ntmps99
  go_wp2_with (go_at_call 97; (with_reducible refine (to4_self _ _ _).mono ?_); rintro e w2 ⟨rfl, rfl⟩)
  go_quiet_grown (first
    | (go_at_call 161; with_reducible exact Calls.grown_of (i1.out _ _))
    | (go_at_call 161; with_reducible exact Calls.grown_of (i2.out _ _))
    | (go_at_call 161; with_reducible exact Calls.grown_of (i3.out _ _))
    | (go_at_call 161; with_reducible exact Calls.grown_of (i4.out _ _)))
  all_goals
    go_wp2
    go_ret
    exact ⟨congrArg (fun z => Ending.returned (.string z)) HT.out, below_grow (below_drewN HB.out _) (by simp) _⟩
end Go.Proofs.YtnpcmmjdojdmnaaGreatDoor
