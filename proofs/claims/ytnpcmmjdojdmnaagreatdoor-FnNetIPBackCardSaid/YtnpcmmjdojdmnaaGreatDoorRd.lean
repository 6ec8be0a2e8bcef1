/- ZZParseAddr, zzParseIP at a text of 128 bits; To4, To16, ip6StB. ZZIPString at sixteen bytes: the text is one that is read back. -/
import Derived.Test.YtnpcmmjdojdmnaaGreatDoorRc
import Derived.Test.YtnpcmmjdojdmnaaGreatDoorQq
namespace Go.Proofs.YtnpcmmjdojdmnaaGreatDoor
open Go Go.RowKit

/-- A text of an address of 128 bits, and its groups. -/
structure V6 (s : ByteArray) (gs : List Nat) : Prop where
  size : s.size ≤ 1000
  parse : parse6 s.data.toList = some gs
  len : (groupBytes gs).length = 16
  chars : ∀ x ∈ s.data.toList, x.toNat ≠ 46 ∧ x.toNat ≠ 37
  colon : ∃ x ∈ s.data.toList, x.toNat = 58
  shape : (∃ r, s.data.toList = 58 :: 58 :: r) ∨ (∃ c d r, s.data.toList = c :: d :: r ∧ c.toNat ≠ 58)

theorem zzParse6 (s : ByteArray) (gs : List Nat) (h : V6 s gs) (w : World) :
    Calls Tryz.prog 340 #[.string s] w fun e w' => e = .returned (.tuple #[.agg (cellsArr (groupBytes gs)), .bool true]) ∧ Below w.heap.size w w' := by
  rcases h.shape with ⟨r, hr⟩ | ⟨c, d, r, hr, hc⟩
  · exact zzParse6_b s gs r hr h.parse w h.size
  · obtain ⟨h1, h2, h3⟩ := head_cons hr
    rw [List.length_cons] at h3
    exact zzParse6_a s gs h.parse (by omega) (by rw [h2]; exact hc) w h.size

theorem results279 (tmps : Array Value) (w : World) (g : Nat) (cs : Array Value) (a b : Bool) (hp : tmps.getD 2 undef = .pointer (some ⟨g, 0, none⟩)) (h3 : tmps.getD 3 undef = .bool a) (h4 : tmps.getD 4 undef = .bool b)
    (hg : w.heap[g]? = some (.cells cs 219 (0, 0))) (hi : (Tryz.prog.info? 219).map (·.size) = some cs.size) : (results Tryz.f279 tmps).run Tryz.prog w = .ok (.tuple #[.agg cs, .bool a, .bool b]) w := by
  have hp' : tmps[2]?.getD undef = .pointer (some ⟨g, 0, none⟩) := by simpa using hp
  have h3' : tmps[3]?.getD undef = .bool a := by simpa using h3
  have h4' : tmps[4]?.getD undef = .bool b := by simpa using h4
  simp [results, Tryz.results279, hp', h3', h4', asAddr, run_loadVar_row w g 219 219 cs (0, 0) _ hg Tryz.underlying219 rfl hi]

/-- Sixteen zeros. -/
abbrev zeros16 : Array Value := #[.int .u8 0, .int .u8 0, .int .u8 0, .int .u8 0, .int .u8 0, .int .u8 0, .int .u8 0, .int .u8 0, .int .u8 0, .int .u8 0, .int .u8 0, .int .u8 0, .int .u8 0, .int .u8 0, .int .u8 0, .int .u8 0]

set_option maxRecDepth 100000 in
set_option maxHeartbeats 8000000 in
theorem parseAddr6 (s : ByteArray) (gs : List Nat) (h : V6 s gs) (w : World) :
    Calls Tryz.prog 279 #[.string s] w fun e w' => e = .returned (.tuple #[.agg (cellsArr (groupBytes gs)), .bool false, .bool true]) ∧ Below w.heap.size w w' := by
  have hs := h.size
  have hch : Hid (∀ k (h : k < s.size), s[k].toNat ≠ 46 ∧ s[k].toNat ≠ 37) := Lib.hid fun k hk => h.chars s[k] (by
    have : s.data.toList[k]'(by rw [Array.length_toList]; exact hk) = s[k] := rfl
    rw [← this]; exact List.getElem_mem _)
  have hnd : Hid (¬ ∀ j (h : j < s.size), s[j].toNat ≠ 58) := Lib.hid fun hn => by
    obtain ⟨x, hx, h58⟩ := h.colon
    obtain ⟨j, hj, rfl⟩ := List.getElem_of_mem hx
    exact hn j (by rw [Array.length_toList] at hj; exact hj) h58
  have P6 := Lib.hid (fun wx => zzParse6 s gs h wx)
  have HC16 : Hid ((Tryz.prog.info? 219).map (·.size) = some (cellsArr (groupBytes gs)).size) := Lib.hid (by rw [cellsArr_size, h.len]; exact size219)
  clear h
  go_enter Tryz.func279, Tryz.ntmps279
  go_wp2
  go_loop [5] (fun v => ∃ k : Nat, v = .int .i64 k ∧ k ≤ s.size ∧ Hid (∀ j (h : j < s.size), j < k → s[j].toNat ≠ 58)) (fun v => s.size - (intOf v).toNat)
  case atStart => exact ⟨0, rfl, Nat.zero_le _, Lib.hid (fun _ _ h => by omega)⟩
  case round =>
    obtain ⟨k, rfl, hk, hall⟩ := hrel
    by_cases hlt : k < s.size
    · obtain ⟨c46, c37⟩ := hch.out k hlt
      by_cases h58 : s[k].toNat = 58
      · clear c46 c37
        go_wp2
        go_loop [6] (fun v => ∃ m : Nat, v = .int .i64 m ∧ m ≤ s.size) (fun v => s.size - (intOf v).toNat)
        case atStart => exact ⟨k, rfl, hk⟩
        case round =>
          obtain ⟨m, rfl, hm⟩ := hrel
          by_cases hlt2 : m < s.size
          · obtain ⟨-, d37⟩ := hch.out m hlt2
            have e1 : ((s[m].toNat : Int) == 37) = false := by rw [beq_eq_false_iff_ne]; omega
            clear d37
            go_wp2
            exact ⟨⟨m + 1, by go_num, by omega⟩, by simp [intOf]; omega⟩
          · go_wp2_with (go_at_call 340; with_reducible refine (P6.out _).mono ?_; rintro e w2 ⟨rfl, hb⟩; refine Hid.out ?_)
            refine Lib.hid ?_
            have hg1 : w2.heap[w.heap.size]? = some (.cells zeros16 219 (0, 0)) := (hb.block w.heap.size (by simp)).trans (heap_alloc_last w _)
            have H1 := Lib.hid hg1
            have H2 := Lib.hid (setRow_heap w2 w.heap.size _ (cellsArr (groupBytes gs)) _ _ hg1)
            have H3 := Lib.hid (setRow_heap _ w.heap.size _ (cellsArr (groupBytes gs)) _ _ H2.out)
            have HB : Below w.heap.size w w2 := ((Below.refl _ _).alloc (Nat.le_refl _) _).trans (hb.mono (by simp))
            have HB' := Lib.hid HB
            have HZ : Hid (zeros16.size = (cellsArr (groupBytes gs)).size) := Lib.hid (by
              have := HC16.out
              rw [size219] at this
              rw [← Option.some.inj this]; rfl)
            clear hg1 hb HB
            go_wp2_with (first
              | (refine wpList_store_row rfl 219 (.tmp 2) (.tmp 42) rfl w.heap.size _ rfl rfl 219 _ H1.out HC16.out HZ.out (cellsArr_one _) ?_)
              | (refine wpList_load_row rfl 219 (.tmp 2) rfl w.heap.size rfl 219 _ (0, 0) _ H2.out Tryz.underlying219 rfl HC16.out ?_)
              | (refine wpList_store_row rfl 219 (.tmp 2) (.tmp 44) rfl w.heap.size _ rfl rfl 219 _ H2.out HC16.out rfl (cellsArr_one _) ?_))
            refine bodyPost_ret (v := .tuple #[.agg _, .bool _, .bool _]) (results279 _ _ _ _ _ _ rfl rfl rfl H3.out HC16.out) rfl ⟨rfl, ?_⟩
            exact below_setRow (below_setRow HB'.out (Nat.le_refl _) _) (Nat.le_refl _) _
      · have e1 : ((s[k].toNat : Int) == 46) = false := by rw [beq_eq_false_iff_ne]; omega
        have e2 : ((s[k].toNat : Int) == 58) = false := by rw [beq_eq_false_iff_ne]; omega
        have e3 : ((s[k].toNat : Int) == 37) = false := by rw [beq_eq_false_iff_ne]; omega
        have H58 := Lib.hid h58; clear h58 c46 c37
        go_wp2
        refine ⟨⟨k + 1, by go_num, by omega, Lib.hid fun j h hj => ?_⟩, by simp [intOf]; omega⟩
        by_cases hjk : j < k
        · exact hall.out j h hjk
        · obtain rfl : j = k := by omega
          exact H58.out
    · exact absurd (fun j h => hall.out j h (by omega)) hnd.out

set_option maxRecDepth 100000 in
set_option maxHeartbeats 4000000 in
theorem parseIP6 (s : ByteArray) (gs : List Nat) (h : V6 s gs) (w : World) :
    Calls Tryz.prog 245 #[.string s] w fun e w' => ∃ w2, e = .returned (.slice (some ⟨w2.heap.size, 0, none⟩) 16 16) ∧ w' = w2.alloc (.cells (cellsArr (groupBytes gs)) 219) ∧ Below w.heap.size w w2 := by
  have HP := Lib.hid (parseAddr6 s gs h w)
  have HC16 : Hid ((Tryz.prog.info? 219).map (·.size) = some (cellsArr (groupBytes gs)).size) := Lib.hid (by rw [cellsArr_size, h.len]; exact size219)
  have HZ : Hid (zeros16.size = (cellsArr (groupBytes gs)).size) := Lib.hid (by
    have := HC16.out
    rw [size219] at this
    rw [← Option.some.inj this]; rfl)
  clear h
  go_enter Tryz.func245, Tryz.ntmps245
  go_wp2_with (first
    | (go_at_call 279; with_reducible refine HP.out.mono ?_; rintro e w2 ⟨rfl, hb⟩)
    | (refine wpList_store_row rfl 219 (.tmp 3) (.tmp 9) rfl w2.heap.size _ rfl rfl 219 _ (heap_alloc_last w2 _) HC16.out HZ.out (cellsArr_one _) ?_; rw [World.setRow_alloc_new]))
  go_ret
  exact ⟨w2, rfl, rfl, hb⟩

set_option maxRecDepth 100000 in
set_option maxHeartbeats 4000000 in
theorem to16_self (p : Option Addr) (cp : Nat) (w : World) : Calls Tryz.prog 101 #[.slice p 16 cp] w fun e w' => e = .returned (.slice p 16 cp) ∧ w = w' := by
  go_enter Tryz.func101, Tryz.ntmps101
  go_wp2
  go_ret
  exact ⟨rfl, rfl⟩

set_option maxRecDepth 100000 in
set_option maxHeartbeats 4000000 in
theorem isZeros (g o cp : Nat) (l : List UInt8) (w : World) (hl : l.length ≤ 1000) (h : At w g o l) :
    Calls Tryz.prog 158 #[.slice (some ⟨g, o, none⟩) l.length cp] w fun e w' => e = .returned (.bool (l.all fun x => x.toNat == 0)) ∧ w = w' := by
  have HA := Lib.hid h; clear h
  generalize hb : (l.all fun x => x.toNat == 0) = b
  have HB : Hid ((∀ k (h : k < l.length), l[k].toNat = 0) → b = true) := Lib.hid fun hz => by
    rw [← hb, List.all_eq_true]
    intro x hx
    obtain ⟨k, hk, rfl⟩ := List.getElem_of_mem hx
    simpa using hz k hk
  have HF : Hid (∀ k (h : k < l.length), l[k].toNat ≠ 0 → b = false) := Lib.hid fun k hk hz => by
    rw [← hb, List.all_eq_false]
    exact ⟨l[k], List.getElem_mem _, by simpa using hz⟩
  clear hb
  go_enter Tryz.func158, Tryz.ntmps158
  go_wp2
  go_loop [3] (fun v => ∃ k : Nat, v = .int .i64 k ∧ k ≤ l.length ∧ Hid (∀ j (h : j < l.length), j < k → l[j].toNat = 0)) (fun v => l.length - (intOf v).toNat)
  case atStart => exact ⟨0, rfl, Nat.zero_le _, Lib.hid (fun _ _ h => by omega)⟩
  case round =>
    obtain ⟨k, rfl, hk, hall⟩ := hrel
    by_cases hlt : k < l.length
    · have hc := HA.out k hlt
      by_cases h0 : l[k].toNat = 0
      · rw [h0] at hc
        have H0 := Lib.hid h0; clear h0
        go_wp2
        refine ⟨⟨k + 1, by go_num, by omega, Lib.hid fun j h hj => ?_⟩, by simp [intOf]; omega⟩
        by_cases hjk : j < k
        · exact hall.out j h hjk
        · obtain rfl : j = k := by omega
          exact H0.out
      · have hf := HF.out k hlt h0
        subst hf
        go_wp2
        go_ret
        exact ⟨rfl, rfl⟩
    · have hf := HB.out fun j h => hall.out j h (by omega)
      subst hf
      go_wp2
      go_ret
      exact ⟨rfl, rfl⟩

/-- An address of 128 bits that maps one of 32 bits. -/
def mapped (l : List UInt8) : Bool := (l.take 10).all (fun x => x.toNat == 0) && (l[10]?.any fun x => x.toNat == 255) && (l[11]?.any fun x => x.toNat == 255)

set_option maxRecDepth 100000 in
set_option maxHeartbeats 4000000 in
theorem to4_none (g o cp : Nat) (l : List UInt8) (w : World) (hl : l.length = 16) (hcp : 16 ≤ cp) (h : At w g o l) (hm : mapped l = false) :
    Calls Tryz.prog 97 #[.slice (some ⟨g, o, none⟩) 16 cp] w fun e w' => e = .returned (.slice none 0 0) ∧ w = w' := by
  have hZ : ∀ c, Calls Tryz.prog 158 #[.slice (some ⟨g, o, none⟩) 10 c] w fun e w' => e = .returned (.bool ((l.take 10).all fun x => x.toNat == 0)) ∧ w = w' := fun c => by
    have h10 : (l.take 10).length = 10 := by simp; omega
    have := isZeros g o c (l.take 10) w (by omega) (fun j hj => by rw [h j (by omega), List.getElem_take])
    rwa [h10] at this
  have c0 : w.cell? ⟨g, o + 10, none⟩ = some (.int .u8 l[10].toNat) := h 10 (by omega)
  have c1 : w.cell? ⟨g, o + 11, none⟩ = some (.int .u8 l[11].toNat) := h 11 (by omega)
  have hm' : ((l.take 10).all (fun x => x.toNat == 0) && (l[10].toNat == 255) && (l[11].toNat == 255)) = false := by
    have := hm
    rw [mapped, List.getElem?_eq_getElem (by omega : 10 < l.length), List.getElem?_eq_getElem (by omega : 11 < l.length)] at this
    simpa using this
  generalize ((l.take 10).all fun x => x.toNat == 0) = z at *
  generalize l[10].toNat = x at *
  generalize l[11].toNat = y at *
  have HZ := Lib.hid hZ; clear hZ h hm
  cases z with
  | false =>
    clear hm'
    go_enter Tryz.func97, Tryz.ntmps97
    go_wp2_with (go_at_call 158; with_reducible refine (HZ.out _).mono ?_; rintro e w2 ⟨rfl, rfl⟩)
    go_ret
    exact ⟨rfl, rfl⟩
  | true =>
    by_cases hx : x = 255
    · have hy : y ≠ 255 := by intro hy; subst hx hy; simp at hm'
      have ey : ((y : Int) == 255) = false := by rw [beq_eq_false_iff_ne]; omega
      subst hx
      clear hm' hy
      go_enter Tryz.func97, Tryz.ntmps97
      go_wp2_with (go_at_call 158; with_reducible refine (HZ.out _).mono ?_; rintro e w2 ⟨rfl, rfl⟩)
      go_ret
      exact ⟨rfl, rfl⟩
    · have ex : ((x : Int) == 255) = false := by rw [beq_eq_false_iff_ne]; omega
      clear hm' hx
      go_enter Tryz.func97, Tryz.ntmps97
      go_wp2_with (go_at_call 158; with_reducible refine (HZ.out _).mono ?_; rintro e w2 ⟨rfl, rfl⟩)
      go_ret
      exact ⟨rfl, rfl⟩

set_option maxRecDepth 100000 in
set_option maxHeartbeats 4000000 in
theorem ip6StB (s : ByteArray) (gs : List Nat) (h : V6 s gs) (l : List UInt8) (hl : groupBytes gs = l.map (·.toNat)) (w : World) :
    Calls Tryz.prog 206 #[.string s] w fun e w' => ∃ v, e = .returned (.tuple #[v, .nilIface]) ∧ NewB w.heap.size w' v l ∧ Below w.heap.size w w' := by
  have HP := Lib.hid (parseIP6 s gs h w)
  have hlen : l.length = 16 := by have := h.len; rw [hl, List.length_map] at this; exact this
  have HL := Lib.hid (And.intro hl hlen)
  clear h hl hlen
  have hnil : ∀ (w : World) (g : Nat), (binOp .eql 76 (.slice (some ⟨g, 0, none⟩) 16 16) (.slice none 0 0)).run Tryz.prog w = .ok (.bool false) w := fun w g => by
    simp [binOp, run_equal_slice_nil w 76 5 (some ⟨g, 0, none⟩) 16 16 Tryz.underlying76, Result.andThen]
  go_enter Tryz.func206, Tryz.ntmps206
  go_wp2_with (first
    | (go_at_call 245; with_reducible refine HP.out.mono ?_; rintro e w2 ⟨w3, rfl, rfl, hbe⟩)
    | (go_at_call 101; with_reducible refine (to16_self _ _ _).mono ?_; rintro e w4 ⟨rfl, rfl⟩))
  go_ret2
  obtain ⟨hl, hlen⟩ := HL.out
  refine ⟨_, rfl, ⟨w3.heap.size, 0, 16, by rw [hlen]; rfl, hbe.size, by simp, ?_⟩, hbe.alloc hbe.size _⟩
  intro j hj
  rw [World.cell?_alloc_new, Nat.zero_add, cellsArr_get, hl, List.getElem?_map, List.getElem?_eq_getElem hj]
  rfl
end Go.Proofs.YtnpcmmjdojdmnaaGreatDoor
namespace Go.Proofs.YtnpcmmjdojdmnaaGreatDoor
open Go Go.RowKit

/-- The i-th group of bytes. -/
def gnat (l : List UInt8) (i : Nat) : Nat := (l[2 * i]?.getD 0).toNat * 256 + (l[2 * i + 1]?.getD 0).toNat
theorem gnat_lt (l : List UInt8) (i : Nat) : gnat l i < 65536 := by
  have := (l[2 * i]?.getD 0).toNat_lt
  have := (l[2 * i + 1]?.getD 0).toNat_lt
  unfold gnat; omega
/-- The groups of sixteen bytes. -/
def groupsOf (l : List UInt8) : List Nat := (List.range 8).map (gnat l)
theorem groupsOf_len (l : List UInt8) : (groupsOf l).length = 8 := by simp [groupsOf]
theorem groupsOf_get (l : List UInt8) (i : Nat) (h : i < 8) : (groupsOf l)[i]? = some (gnat l i) := by
  rw [groupsOf, List.getElem?_map, List.getElem?_range h]; rfl
theorem groupsOf_lt (l : List UInt8) : ∀ g ∈ groupsOf l, g < 65536 := by
  intro g hg
  rw [groupsOf] at hg
  obtain ⟨i, _, rfl⟩ := List.mem_map.1 hg
  exact gnat_lt l i
theorem groupsOf_bytes (l : List UInt8) (h : l.length = 16) : groupBytes (groupsOf l) = l.map (·.toNat) := by
  match l, h with
  | [a0, a1, a2, a3, a4, a5, a6, a7, a8, a9, b0, b1, b2, b3, b4, b5], _ =>
    have d : ∀ x y : UInt8, (x.toNat * 256 + y.toNat) / 256 = x.toNat ∧ (x.toNat * 256 + y.toNat) % 256 = y.toNat := fun x y => by
      have := x.toNat_lt; have := y.toNat_lt; omega
    show groupBytes [a0.toNat * 256 + a1.toNat, a2.toNat * 256 + a3.toNat, a4.toNat * 256 + a5.toNat, a6.toNat * 256 + a7.toNat, a8.toNat * 256 + a9.toNat, b0.toNat * 256 + b1.toNat, b2.toNat * 256 + b3.toNat, b4.toNat * 256 + b5.toNat] = _
    simp only [groupBytes, (d _ _).1, (d _ _).2]
    rfl
/-- A run of zeros, or none. -/
def Run (gs : List Nat) (fr to : Nat) : Prop := (fr = 255 ∧ to = 255) ∨ (fr + 2 ≤ to ∧ to ≤ 8 ∧ ∀ j, fr ≤ j → j < to → gs[j]? = some 0)
theorem joinC_two (gs : List Nat) (h : 2 ≤ gs.length) : ∃ c d r, joinC gs = c :: d :: r ∧ c.toNat ≠ 58 := by
  match gs, h with
  | a :: b :: r, _ =>
    obtain ⟨x, t, hx, hj⟩ := joinC_head a (b :: r)
    cases t with
    | nil =>
      have h1 : (joinC (a :: b :: r)).length = 1 := by rw [hj]; rfl
      rw [joinC] at h1
      have := hexs_ne a
      have : (hexs a).length ≠ 0 := by rwa [Ne, List.length_eq_zero_iff]
      simp at h1; omega
    | cons d t => exact ⟨_, d, t, hj, hexDig_ne x hx⟩
theorem v6_fmt6 (l : List UInt8) (hl : l.length = 16) (fr to : Nat) (h : Run (groupsOf l) fr to) : V6 ⟨(fmt6 (groupsOf l) fr to).toArray⟩ (groupsOf l) := by
  have h8 := groupsOf_len l
  have hlt := groupsOf_lt l
  have hp := parse6_fmt6 (groupsOf l) fr to h8 hlt (by
    rcases h with ⟨h, _⟩ | h
    · exact Or.inl h
    · exact Or.inr h)
  refine ⟨?_, hp, by rw [groupsOf_bytes l hl]; simpa using hl, ?_, ⟨58, fmt6_colon _ _ _ h8, rfl⟩, ?_⟩
  · have := fmt6_len (groupsOf l) fr to h8 hlt
    show ((fmt6 (groupsOf l) fr to).toArray).size ≤ 1000
    rw [List.size_toArray]; omega
  · intro x hx
    rcases fmt6_chars _ _ _ x hx with ⟨d, hd, rfl⟩ | rfl
    · have : ∀ d : Fin 16, (hexDig d).toNat ≠ 46 ∧ (hexDig d).toNat ≠ 37 := by decide
      exact this ⟨d, hd⟩
    · decide
  · show (∃ r, fmt6 (groupsOf l) fr to = _) ∨ (∃ c d r, fmt6 (groupsOf l) fr to = _ ∧ _)
    rw [fmt6]
    by_cases hf : fr = 255
    · rw [if_pos hf]; exact Or.inr (joinC_two _ (by omega))
    · rw [if_neg hf]
      cases hL : (groupsOf l).take fr with
      | nil => exact Or.inl ⟨_, rfl⟩
      | cons a r =>
        right
        obtain ⟨x, t, hx, hj⟩ := joinC_head a r
        rw [hj]
        cases t with
        | nil => exact ⟨_, _, _, rfl, hexDig_ne x hx⟩
        | cons d t => exact ⟨_, _, _, rfl, hexDig_ne x hx⟩

set_option maxRecDepth 100000 in
set_option maxHeartbeats 4000000 in
theorem group (pb g o cp : Nat) (l : List UInt8) (hl : l.length = 16) (i : Nat) (hi : i < 8) (w : World) (hb : w.cell? ⟨pb, 0, none⟩ = some (.slice (some ⟨g, o, none⟩) 16 cp)) (h : At w g o l) :
    Calls Tryz.prog 162 #[.int .i64 i, .pointer (some ⟨pb, 0, none⟩)] w fun e w' => e = .returned (.int .i64 (gnat l i)) ∧ Below w.heap.size w w' := by
  have c0 : w.cell? ⟨g, o + 2 * i, none⟩ = some (.int .u8 (l[2 * i]?.getD 0).toNat) := by rw [List.getElem?_eq_getElem (by omega)]; exact h (2 * i) (by omega)
  have c1 : w.cell? ⟨g, o + (2 * i + 1), none⟩ = some (.int .u8 (l[2 * i + 1]?.getD 0).toNat) := by rw [List.getElem?_eq_getElem (by omega)]; exact h (2 * i + 1) (by omega)
  have hx := (l[2 * i]?.getD 0).toNat_lt
  have hy := (l[2 * i + 1]?.getD 0).toNat_lt
  have HG : Hid (gnat l i = (l[2 * i]?.getD 0).toNat * 256 + (l[2 * i + 1]?.getD 0).toNat) := Lib.hid rfl
  generalize (l[2 * i]?.getD 0).toNat = x at *
  generalize (l[2 * i + 1]?.getD 0).toNat = y at *
  clear h
  obtain ⟨a, ha⟩ : ∃ a, a = 2 * i := ⟨_, rfl⟩
  obtain ⟨b, hb'⟩ : ∃ b, b = 2 * i + 1 := ⟨_, rfl⟩
  rw [← hb'] at c1
  rw [← ha] at c0
  have q0 : IntKind.i64.wrap (2 * (i : Int)) = (a : Int) := by rw [IntWalk.i64_in _ (by omega)]; omega
  have q1 : IntKind.i64.wrap ((a : Int) + 1) = (b : Int) := by rw [IntWalk.i64_in _ (by omega)]; omega
  have q2 : (a : Int) < 16 := by omega
  have q3 : (b : Int) < 16 := by omega
  have q4 : IntKind.i64.wrap (x : Int) = (x : Int) := IntWalk.i64_in _ (by omega)
  have q5 : IntKind.i64.wrap (y : Int) = (y : Int) := IntWalk.i64_in _ (by omega)
  have q6 : IntKind.i64.wrap ((x : Int) * 256) = (x : Int) * 256 := IntWalk.i64_in _ (by omega)
  have q7 : bits .or .i64 ((x : Int) * 256) (y : Int) = ((x * 256 + y : Nat) : Int) := by
    have := i64_or_nat (x * 256) y (by omega) (by omega)
    rw [show ((x * 256 : Nat) : Int) = (x : Int) * 256 by omega] at this
    rw [this, Nat.mul_comm x 256, show (256 : Nat) = 2 ^ 8 from rfl, Nat.two_pow_add_eq_or_of_lt (by omega : y < 2 ^ 8)]
  clear ha hb'
  go_enter Tryz.func162, Tryz.ntmps162
  go_wp2
  go_region
  go_wp2
  go_ret
  exact ⟨ret_int (by rw [HG.out]; omega), (Below.refl _ _).drew⟩
end Go.Proofs.YtnpcmmjdojdmnaaGreatDoor
