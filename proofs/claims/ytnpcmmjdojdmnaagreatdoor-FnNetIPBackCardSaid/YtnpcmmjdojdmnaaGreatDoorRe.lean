/- ZZIPString at sixteen bytes that do not map four. ZZIPString at four bytes: the text is a dotted quad that is read back; ip4BtS, ip6BtS. -/
import Derived.Test.YtnpcmmjdojdmnaaGreatDoorRd
import Derived.Shelf.SlSortCmp.QuietGrown
import Derived.Lib.SmallJoins
namespace Go.Proofs.YtnpcmmjdojdmnaaGreatDoor
open Go Go.RowKit

/-- What has been written ahead of the i-th group. -/
def Part (gs : List Nat) (fr to i : Nat) (t : ByteArray) : Prop :=
  ((fr = 255 ∨ i ≤ fr) ∧ t.data.toList = joinC (gs.take i)) ∨ (fr ≠ 255 ∧ to < i ∧ t.data.toList = joinC (gs.take fr) ++ [58, 58] ++ joinC ((gs.drop to).take (i - to)))
theorem app_list (a : ByteArray) (b : List UInt8) : (a ++ ⟨b.toArray⟩ : ByteArray).data.toList = a.data.toList ++ b := by
  rw [ByteArray.data_append, Array.toList_append]
theorem ba_ext {a : ByteArray} {l : List UInt8} (h : a.data.toList = l) : a = ⟨l.toArray⟩ := by
  apply ByteArray.ext
  apply Array.toList_inj.1
  exact h
theorem take_snoc6 {gs : List Nat} {i g : Nat} (h : gs[i]? = some g) : gs.take (i + 1) = gs.take i ++ [g] := by
  rw [List.take_add_one, h]; rfl
theorem Part.first {gs : List Nat} {fr to g : Nat} {t : ByteArray} (h : Part gs fr to 0 t) (hf : fr = 255 ∨ (0 < fr ∧ fr + 2 ≤ to)) (hg : gs[0]? = some g) : Part gs fr to 1 (t ++ ⟨(hexs g).toArray⟩) := by
  rcases h with ⟨_, h⟩ | ⟨_, h, _⟩
  · refine Or.inl ⟨by rcases hf with h | h; exact Or.inl h; exact Or.inr (by omega), ?_⟩
    rw [app_list, h, take_snoc6 (i := 0) hg, joinC_snoc, if_pos (by simp)]
    simp [joinC]
  · omega
theorem Part.next {gs : List Nat} {fr to i g : Nat} {t : ByteArray} (h8 : gs.length = 8) (h : Part gs fr to i t) (hi : 0 < i) (hne : i ≠ fr) (hg : gs[i]? = some g) : Part gs fr to (i + 1) (t ++ ⟨#[58]⟩ ++ ⟨(hexs g).toArray⟩) := by
  have hi8 : i < 8 := by
    by_cases hh : i < gs.length
    · omega
    · rw [List.getElem?_eq_none (by omega)] at hg; cases hg
  have e : (t ++ ⟨#[58]⟩ ++ ⟨(hexs g).toArray⟩ : ByteArray).data.toList = t.data.toList ++ 58 :: hexs g := by
    rw [app_list, show (⟨#[58]⟩ : ByteArray) = ⟨([58] : List UInt8).toArray⟩ from rfl, app_list]; simp
  rcases h with ⟨hf, h⟩ | ⟨hf, h1, h⟩
  · refine Or.inl ⟨by omega, ?_⟩
    rw [e, h, take_snoc6 hg, joinC_snoc, if_neg]
    intro hn
    have := congrArg List.length hn
    rw [List.length_take, List.length_nil] at this; omega
  · refine Or.inr ⟨hf, by omega, ?_⟩
    have hg2 : (gs.drop to)[i - to]? = some g := by rw [List.getElem?_drop, show to + (i - to) = i by omega]; exact hg
    rw [e, h, show i + 1 - to = (i - to) + 1 by omega, take_snoc6 hg2, joinC_snoc, if_neg]
    · simp
    · intro hn
      have := congrArg List.length hn
      rw [List.length_take, List.length_drop, List.length_nil] at this; omega
theorem Part.jump {gs : List Nat} {fr to g : Nat} {t : ByteArray} (h : Part gs fr to fr t) (hf : fr ≠ 255) (hft : fr + 2 ≤ to) (hg : gs[to]? = some g) : Part gs fr to (to + 1) (t ++ ⟨#[58, 58]⟩ ++ ⟨(hexs g).toArray⟩) := by
  have e : (t ++ ⟨#[58, 58]⟩ ++ ⟨(hexs g).toArray⟩ : ByteArray).data.toList = t.data.toList ++ [58, 58] ++ hexs g := by
    rw [app_list, show (⟨#[58, 58]⟩ : ByteArray) = ⟨([58, 58] : List UInt8).toArray⟩ from rfl, app_list]
  rcases h with ⟨_, h⟩ | ⟨_, h1, _⟩
  · refine Or.inr ⟨hf, by omega, ?_⟩
    have hg2 : (gs.drop to)[0]? = some g := by rw [List.getElem?_drop]; exact hg
    rw [e, h, show to + 1 - to = 0 + 1 by omega, take_snoc6 hg2, joinC_snoc, if_pos (by simp)]
  · omega
theorem Part.out8 {gs : List Nat} {fr to : Nat} {t : ByteArray} (h8 : gs.length = 8) (hr : Run gs fr to) (h : Part gs fr to 8 t) : t = ⟨(fmt6 gs fr to).toArray⟩ := by
  apply ba_ext
  rcases h with ⟨hf, h⟩ | ⟨hf, h1, h⟩
  · have : fr = 255 := by
      rcases hr with ⟨h, _⟩ | ⟨h1, h2, _⟩
      · exact h
      · omega
    rw [h, fmt6, if_pos this, List.take_of_length_le (by omega)]
  · have e : (gs.drop to).take (8 - to) = gs.drop to := List.take_of_length_le (by rw [List.length_drop]; omega)
    rw [h, e, fmt6, if_neg hf]
theorem Part.outJump {gs : List Nat} {fr : Nat} {t : ByteArray} (h8 : gs.length = 8) (hf : fr ≠ 255) (hft : fr + 2 ≤ 8) (h : Part gs fr 8 fr t) : t ++ ⟨#[58, 58]⟩ = (⟨(fmt6 gs fr 8).toArray⟩ : ByteArray) := by
  apply ba_ext
  rcases h with ⟨_, h⟩ | ⟨_, h1, h⟩
  · rw [show (⟨#[58, 58]⟩ : ByteArray) = ⟨([58, 58] : List UInt8).toArray⟩ from rfl, app_list, h, fmt6, if_neg hf, List.drop_of_length_le (by omega), joinC, List.append_nil]
  · omega
theorem hexs_size (g : Nat) (h : g < 65536) : (⟨(hexs g).toArray⟩ : ByteArray).size ≤ 4 := by
  show ((hexs g).toArray).size ≤ 4
  rw [List.size_toArray]
  exact hexs_len 3 g (by simpa using h)

/-- The walk's world: the box of the address, and its bytes. -/
structure Box (w0 : World) (pb g o cp : Nat) (l : List UInt8) (w : World) : Prop where
  box : w.cell? ⟨pb, 0, none⟩ = some (.slice (some ⟨g, o, none⟩) 16 cp)
  at_ : At w g o l
  below : Below (pb + 1) w0 w
  size : pb < w.heap.size
theorem Box.step {w0 : World} {pb g o cp : Nat} {l : List UInt8} {w w' : World} (h : Box w0 pb g o cp l w) (hg : g < pb) (hb : Below w.heap.size w w') : Box w0 pb g o cp l w' :=
  ⟨(hb.cell (p := ⟨pb, 0, none⟩) h.size).trans h.box, h.at_.below hb (by have := h.size; omega), h.below.trans (hb.mono (by have := h.size; omega)), Nat.lt_of_lt_of_le h.size hb.size⟩

set_option maxRecDepth 100000 in
set_option maxHeartbeats 16000000 in
theorem ipString6 (l : List UInt8) (hl : l.length = 16) (hm : mapped l = false) (g o cp : Nat) (hcp : 16 ≤ cp) (w : World) (h : At w g o l) :
    Calls Tryz.prog 99 #[.slice (some ⟨g, o, none⟩) 16 cp] w fun e w' => ∃ s, e = .returned (.string s) ∧ V6 s (groupsOf l) ∧ Below w.heap.size w w' := by
  have hg : g < w.heap.size := h.lt (by omega)
  have H4 := Lib.hid (fun wx hx => to4_none g o cp l wx hl hcp hx hm)
  have HB0 : Hid (Box (w.alloc (.cells #[.slice (some ⟨g, o, none⟩) 16 cp] 76)) w.heap.size g o cp l (w.alloc (.cells #[.slice (some ⟨g, o, none⟩) 16 cp] 76))) :=
    Lib.hid ⟨by simp [go_sem], h.below ((Below.refl _ _).alloc (Nat.le_refl _) _) hg, Below.refl _ _, by simp⟩
  have HV := Lib.hid (v6_fmt6 l hl)
  have HG := Lib.hid (fun i (hi : i < 8) (wx : World) (hx : Box (w.alloc (.cells #[.slice (some ⟨g, o, none⟩) 16 cp] 76)) w.heap.size g o cp l wx) => group w.heap.size g o cp l hl i hi wx hx.box hx.at_)
  have HGS := Lib.hid (groupsOf_get l)
  have h8 := Lib.hid (groupsOf_len l)
  have HLT := Lib.hid (fun i => gnat_lt l i)
  clear h hm
  generalize groupsOf l = gs at *
  go_enter Tryz.func99, Tryz.ntmps99
  go_wp2_with (go_at_call 97; with_reducible refine (H4.out _ HB0.out.at_).mono ?_; rintro e w2 ⟨rfl, rfl⟩)
  go_loopw [8, 9, 10] (fun v8 v9 v10 wr => ∃ fr to i : Nat, v8 = .int .i64 fr ∧ v9 = .int .i64 to ∧ v10 = .int .i64 i ∧ i ≤ 8 ∧ Hid (Run gs fr to) ∧ fr ≤ to ∧ to ≤ 255 ∧ Hid (Box (w.alloc (.cells #[.slice (some ⟨g, o, none⟩) 16 cp] 76)) w.heap.size g o cp l wr)) (fun _ _ v10 _ => 8 - (intOf v10).toNat)
  case atStart => exact ⟨255, 255, 0, rfl, rfl, rfl, by omega, Lib.hid (Or.inl ⟨rfl, rfl⟩), by omega, by omega, HB0⟩
  case round =>
    obtain ⟨fr, to, i, rfl, rfl, rfl, hi8, hrun, hft, hto, hbx0⟩ := hrel
    by_cases hi : i < 8
    · have ci : decide ((i : Int) < 8) = true := by simp; omega
      obtain ⟨wo, hwo⟩ : ∃ wo : World, wo = wr := ⟨_, rfl⟩
      subst hwo
      go_wp2
      go_loopw [11] (fun v11 wr => ∃ j : Nat, v11 = .int .i64 j ∧ i ≤ j ∧ j ≤ 8 ∧ Hid (∀ k, i ≤ k → k < j → gs[k]? = some 0) ∧ Hid (Box (w.alloc (.cells #[.slice (some ⟨g, o, none⟩) 16 cp] 76)) w.heap.size g o cp l wr)) (fun v11 _ => 8 - (intOf v11).toNat)
      case atStart => exact ⟨i, rfl, Nat.le_refl _, by omega, Lib.hid (by intros; omega), hbx0⟩
      case round =>
        obtain ⟨j, rfl, hij, hj8, hz, hbx⟩ := hrel
        by_cases hj : j < 8
        · by_cases h0 : gnat l j = 0
          · have HGj : Hid (Calls Tryz.prog 162 #[.int .i64 j, .pointer (some ⟨w.heap.size, 0, none⟩)] wr fun e w' => e = .returned (.int .i64 0) ∧ Below wr.heap.size wr w') := Lib.hid (by have := HG.out j hj wr hbx.out; rw [h0] at this; exact this)
            have hgj := HGS.out j hj
            rw [h0] at hgj
            have HJ := Lib.hid hgj; clear hgj h0
            go_wp2_with (go_at_call 162; with_reducible refine HGj.out.mono ?_; rintro e w2 ⟨rfl, hb⟩)
            go_wp2
            refine ⟨⟨j + 1, by go_num, by omega, by omega, Lib.hid ?_, Lib.hid (hbx.out.step hg hb)⟩, by simp [intOf]; omega⟩
            intro k hk1 hk2
            by_cases hkj : k < j
            · exact hz.out k hk1 hkj
            · obtain rfl : k = j := by omega
              exact HJ.out
          · have HGj : Hid (Calls Tryz.prog 162 #[.int .i64 j, .pointer (some ⟨w.heap.size, 0, none⟩)] wr fun e w' => e = .returned (.int .i64 (gnat l j)) ∧ Below wr.heap.size wr w') := Lib.hid (HG.out j hj wr hbx.out)
            have e0' : ((gnat l j : Int) == 0) = false := by rw [beq_eq_false_iff_ne]; omega
            clear h0
            obtain ⟨d, hd⟩ : ∃ d, d = j - i := ⟨_, rfl⟩
            obtain ⟨e0, he0⟩ : ∃ e, e = to - fr := ⟨_, rfl⟩
            have q1 : IntKind.i64.wrap ((j : Int) - (i : Int)) = (d : Int) := by rw [IntWalk.i64_in _ (by omega)]; omega
            have q2 : IntKind.i64.wrap ((to : Int) - (fr : Int)) = (e0 : Int) := by rw [IntWalk.i64_in _ (by omega)]; omega
            have HD := Lib.hid (And.intro hd he0); clear hd he0
            by_cases hd2 : 2 ≤ d
            · by_cases hde : e0 < d
              · go_wp2_with (go_at_call 162; with_reducible refine HGj.out.mono ?_; rintro e w2 ⟨rfl, hb⟩)
                go_wp2
                have hd := HD.out.1
                refine ⟨⟨i, j, i + 1, rfl, rfl, by go_num, by omega, Lib.hid (Or.inr ⟨by omega, by omega, hz.out⟩), by omega, by omega, Lib.hid (hbx.out.step hg hb)⟩, by simp [intOf]; omega⟩
              · go_wp2_with (go_at_call 162; with_reducible refine HGj.out.mono ?_; rintro e w2 ⟨rfl, hb⟩)
                go_wp2
                refine ⟨⟨fr, to, i + 1, rfl, rfl, by go_num, by omega, hrun, by omega, by omega, Lib.hid (hbx.out.step hg hb)⟩, by simp [intOf]; omega⟩
            · go_wp2_with (go_at_call 162; with_reducible refine HGj.out.mono ?_; rintro e w2 ⟨rfl, hb⟩)
              go_wp2
              refine ⟨⟨fr, to, i + 1, rfl, rfl, by go_num, by omega, hrun, by omega, by omega, Lib.hid (hbx.out.step hg hb)⟩, by simp [intOf]; omega⟩
        · have hnj := hj
          obtain ⟨d, hd⟩ : ∃ d, d = j - i := ⟨_, rfl⟩
          obtain ⟨e0, he0⟩ : ∃ e, e = to - fr := ⟨_, rfl⟩
          have q1 : IntKind.i64.wrap ((j : Int) - (i : Int)) = (d : Int) := by rw [IntWalk.i64_in _ (by omega)]; omega
          have q2 : IntKind.i64.wrap ((to : Int) - (fr : Int)) = (e0 : Int) := by rw [IntWalk.i64_in _ (by omega)]; omega
          have HD := Lib.hid (And.intro hd he0); clear hd he0
          by_cases hd2 : 2 ≤ d
          · by_cases hde : e0 < d
            · go_wp2
              have hd := HD.out.1
              refine ⟨⟨i, j, i + 1, rfl, rfl, by go_num, by omega, Lib.hid (Or.inr ⟨by omega, by omega, hz.out⟩), by omega, by omega, Lib.hid hbx.out⟩, by simp [intOf]; omega⟩
            · go_wp2
              refine ⟨⟨fr, to, i + 1, rfl, rfl, by go_num, by omega, hrun, by omega, by omega, Lib.hid hbx.out⟩, by simp [intOf]; omega⟩
          · go_wp2
            refine ⟨⟨fr, to, i + 1, rfl, rfl, by go_num, by omega, hrun, by omega, by omega, Lib.hid hbx.out⟩, by simp [intOf]; omega⟩
    · go_wp2
      go_loopw [13, 14] (fun v13 v14 wr => ∃ (t : ByteArray) (i : Nat), v13 = .string t ∧ v14 = .int .i64 i ∧ i ≤ 8 ∧ t.size ≤ 6 * i ∧ Hid (Part gs fr to i t) ∧ Hid (Box (w.alloc (.cells #[.slice (some ⟨g, o, none⟩) 16 cp] 76)) w.heap.size g o cp l wr)) (fun _ v14 _ => 8 - (intOf v14).toNat)
      case atStart => exact ⟨⟨#[]⟩, 0, rfl, rfl, by omega, Nat.le_refl 0, Lib.hid (Or.inl ⟨Or.inr (Nat.zero_le _), rfl⟩), hbx0⟩
      case round =>
        obtain ⟨t, i, rfl, rfl, hi8, ht, hpart, hbx⟩ := hrel
        by_cases hi : i < 8
        · by_cases hif : i = fr
          · obtain ⟨hr1, hr2⟩ : fr + 2 ≤ to ∧ to ≤ 8 := by
              rcases hrun.out with ⟨h, _⟩ | ⟨h1, h2, _⟩
              · omega
              · exact ⟨h1, h2⟩
            have e1 : ((i : Int) == (fr : Int)) = true := by rw [hif]; simp
            have f1 : ¬ 9223372036854775807 < t.size + 2 := by omega
            by_cases h8t : to = 8
            · have c8 : 8 ≤ to := by omega
              have HP := Lib.hid (And.intro hpart.out (And.intro hif h8t)); clear hpart hif h8t
              go_wp2
              go_ret
              obtain ⟨hp, hif, h8t⟩ := HP.out
              subst hif h8t
              exact ⟨_, rfl, by rw [Part.outJump h8.out (by omega) (by omega) hp]; exact HV.out _ _ hrun.out, ((Below.refl _ _).alloc (Nat.le_refl _) _).trans (hbx.out.below.mono (by omega))⟩
            · have c8 : ¬ 8 ≤ to := by omega
              have hto8 : to < 8 := by omega
              have hgt := Lib.hid (HGS.out to hto8)
              have HGj : Hid (Calls Tryz.prog 162 #[.int .i64 to, .pointer (some ⟨w.heap.size, 0, none⟩)] wr fun e w' => e = .returned (.int .i64 (gnat l to)) ∧ Below wr.heap.size wr w') := Lib.hid (HG.out to hto8 wr hbx.out)
              obtain ⟨H, hH, hHs⟩ : ∃ H : ByteArray, H = ⟨(hexs (gnat l to)).toArray⟩ ∧ H.size ≤ 4 := ⟨_, rfl, hexs_size _ (HLT.out to)⟩
              have HX : Hid (∀ wx, Calls Tryz.prog 160 #[.int .i64 (gnat l to)] wx fun e w' => e = .returned (.string H) ∧ wx = w') := Lib.hid (fun wx => by rw [hH]; exact zzHex _ (HLT.out to) wx)
              have f2 : ¬ 9223372036854775807 < t.size + 2 + H.size := by omega
              have HP := Lib.hid (And.intro hpart.out (And.intro hif hH)); clear hpart hif hH h8t
              go_wp2_with (first
                | (go_at_call 162; with_reducible refine HGj.out.mono ?_; rintro e w2 ⟨rfl, hb⟩)
                | (go_at_call 160; with_reducible refine (HX.out _).mono ?_; rintro e w3 ⟨rfl, rfl⟩))
              go_wp2
              obtain ⟨hp, hif, hH⟩ := HP.out
              subst hif hH
              refine ⟨⟨_, to + 1, rfl, by go_num, by omega, ?_, Lib.hid (Part.jump hp (by omega) hr1 hgt.out), Lib.hid (hbx.out.step hg hb)⟩, by simp [intOf]; omega⟩
              rw [ByteArray.size_append, ByteArray.size_append]
              have : (⟨#[58, 58]⟩ : ByteArray).size = 2 := rfl
              omega
          · have e1 : ((i : Int) == (fr : Int)) = false := by rw [beq_eq_false_iff_ne]; omega
            have hgt := Lib.hid (HGS.out i hi)
            have HGj : Hid (Calls Tryz.prog 162 #[.int .i64 i, .pointer (some ⟨w.heap.size, 0, none⟩)] wr fun e w' => e = .returned (.int .i64 (gnat l i)) ∧ Below wr.heap.size wr w') := Lib.hid (HG.out i hi wr hbx.out)
            obtain ⟨H, hH, hHs⟩ : ∃ H : ByteArray, H = ⟨(hexs (gnat l i)).toArray⟩ ∧ H.size ≤ 4 := ⟨_, rfl, hexs_size _ (HLT.out i)⟩
            have HX : Hid (∀ wx, Calls Tryz.prog 160 #[.int .i64 (gnat l i)] wx fun e w' => e = .returned (.string H) ∧ wx = w') := Lib.hid (fun wx => by rw [hH]; exact zzHex _ (HLT.out i) wx)
            have f1 : ¬ 9223372036854775807 < t.size + 1 := by omega
            have f2 : ¬ 9223372036854775807 < t.size + 1 + H.size := by omega
            have f3 : ¬ 9223372036854775807 < t.size + H.size := by omega
            have HP := Lib.hid (And.intro hpart.out (And.intro hif hH)); clear hpart hif hH
            by_cases h0 : 0 < i
            · go_wp2_with (first
                | (go_at_call 162; with_reducible refine HGj.out.mono ?_; rintro e w2 ⟨rfl, hb⟩)
                | (go_at_call 160; with_reducible refine (HX.out _).mono ?_; rintro e w3 ⟨rfl, rfl⟩))
              go_wp2
              obtain ⟨hp, hif, hH⟩ := HP.out
              subst hH
              refine ⟨⟨_, i + 1, rfl, by go_num, by omega, ?_, Lib.hid (Part.next h8.out hp h0 hif hgt.out), Lib.hid (hbx.out.step hg hb)⟩, by simp [intOf]; omega⟩
              rw [ByteArray.size_append, ByteArray.size_append]
              have : (⟨#[58]⟩ : ByteArray).size = 1 := rfl
              omega
            · go_wp2_with (first
                | (go_at_call 162; with_reducible refine HGj.out.mono ?_; rintro e w2 ⟨rfl, hb⟩)
                | (go_at_call 160; with_reducible refine (HX.out _).mono ?_; rintro e w3 ⟨rfl, rfl⟩))
              go_wp2
              obtain ⟨hp, hif, hH⟩ := HP.out
              subst hH
              obtain rfl : i = 0 := by omega
              refine ⟨⟨_, 1, rfl, rfl, by omega, ?_, Lib.hid (Part.first hp ?_ hgt.out), Lib.hid (hbx.out.step hg hb)⟩, by simp [intOf]⟩
              · rw [ByteArray.size_append]; omega
              · rcases hrun.out with ⟨h, _⟩ | ⟨h1, h2, _⟩
                · exact Or.inl h
                · exact Or.inr ⟨by omega, h1⟩
        · go_wp2
          go_ret
          obtain rfl : i = 8 := by omega
          exact ⟨_, rfl, by rw [Part.out8 h8.out hrun.out hpart.out]; exact HV.out _ _ hrun.out, ((Below.refl _ _).alloc (Nat.le_refl _) _).trans (hbx.out.below.mono (by omega))⟩
end Go.Proofs.YtnpcmmjdojdmnaaGreatDoor
namespace Go.Proofs.YtnpcmmjdojdmnaaGreatDoor
open Go Go.RowKit Go.Sort

/-- The table of powers of ten lies in a world. -/
def Tab (w : World) : Prop := Lib.TabIs Tryz.prog w "internal/strconv.uint64pow10" .u64 Lib.pow10Tab
theorem Tab.below {w w' : World} {B : Nat} (h : Tab w) (hb : Below B w w') (hB : w.heap.size ≤ B) : Tab w' :=
  _root_.Go.Joins.tab_stays (g := (Tryz.prog.globalNamed "internal/strconv.uint64pow10").getD 0) (by kernel_rfl) h hb hB
theorem below_grow {B : Nat} {a w : World} (h : Below B a w) (hB : B ≤ w.heap.size) (os : Array Obj) : Below B a (grow w os) :=
  h.trans ⟨rfl, rfl, rfl, by simp [grow], fun k hk => by show (w.heap ++ os)[k]? = _; rw [Array.getElem?_append_left (by omega)]⟩

theorem digit_nat (d : Nat) (h : d < 10) : (UInt8.ofNat (48 + d)).toNat = 48 + d := by simp; omega
/-- A number's digits are read. -/
theorem quad_digits (x : Nat) (hx : x < 256) (f pd : Bool) (outs : List Nat) (rest : List UInt8) : ∃ k, quadR (Lib.decDigits x ++ rest) f pd 0 0 outs = quadR rest false false x k outs := by
  have step : ∀ (d v dig : Nat) (f pd : Bool) (r : List UInt8), d < 10 → ¬ (dig = 1 ∧ v = 0) → v * 10 + d < 256 → quadR (UInt8.ofNat (48 + d) :: r) f pd v dig outs = quadR r false false (v * 10 + d) (dig + 1) outs := by
    intro d v dig f pd r hd hz h255
    rw [quadR, digit_nat d hd, if_pos (by omega), if_neg hz, if_neg (by omega), show v * 10 + (48 + d) - 48 = v * 10 + d by omega]
  by_cases h1 : x < 10
  · rw [Lib.decDigits_one h1, List.cons_append, List.nil_append, step x 0 0 f pd rest h1 (by omega) (by omega), Nat.zero_mul, Nat.zero_add]
    exact ⟨_, rfl⟩
  · by_cases h2 : x < 100
    · rw [Lib.decDigits_two h1 h2, List.cons_append, List.cons_append, List.nil_append, step (x / 10) 0 0 f pd _ (by omega) (by omega) (by omega), step (x % 10) _ _ _ _ _ (by omega) (by omega) (by omega)]
      rw [show (0 * 10 + x / 10) * 10 + x % 10 = x by omega]
      exact ⟨_, rfl⟩
    · rw [Lib.decDigits, dif_neg h1, Lib.decDigits_two (by omega : ¬ x / 10 < 10) (by omega)]
      simp only [List.cons_append, List.nil_append]
      rw [step (x / 10 / 10) 0 0 f pd _ (by omega) (by omega) (by omega), step (x / 10 % 10) _ _ _ _ _ (by omega) (by omega) (by omega), step (x % 10) _ _ _ _ _ (by omega) (by omega) (by omega)]
      rw [show ((0 * 10 + x / 10 / 10) * 10 + x / 10 % 10) * 10 + x % 10 = x by omega]
      exact ⟨_, rfl⟩
theorem decDigits_ne (x : Nat) : Lib.decDigits x ≠ [] := by
  rw [Lib.decDigits]; split <;> simp
theorem quad_dot (r : List UInt8) (v k : Nat) (outs : List Nat) (hr : r ≠ []) (ho : outs.length ≠ 3) : quadR (46 :: r) false false v k outs = quadR r false true 0 0 (outs ++ [v]) := by
  rw [quadR, if_neg (by decide), if_pos (by decide), if_neg]
  intro h
  rcases h with h | h | h | h
  · cases h
  · exact hr h
  · cases h
  · exact ho h
/-- The text of four numbers. -/
def quadT (a b c d : Nat) : List UInt8 := Lib.decDigits a ++ 46 :: (Lib.decDigits b ++ 46 :: (Lib.decDigits c ++ 46 :: Lib.decDigits d))
theorem quadR_quadT (a b c d : Nat) (ha : a < 256) (hb : b < 256) (hc : c < 256) (hd : d < 256) : quadR (quadT a b c d) true false 0 0 [] = some [a, b, c, d] := by
  have n1 : ∀ (x : Nat) (t : List UInt8), Lib.decDigits x ++ t ≠ [] := fun x t h => decDigits_ne x (List.append_eq_nil_iff.1 h).1
  obtain ⟨k1, e1⟩ := quad_digits a ha true false [] (46 :: (Lib.decDigits b ++ 46 :: (Lib.decDigits c ++ 46 :: Lib.decDigits d)))
  obtain ⟨k2, e2⟩ := quad_digits b hb false true [a] (46 :: (Lib.decDigits c ++ 46 :: Lib.decDigits d))
  obtain ⟨k3, e3⟩ := quad_digits c hc false true [a, b] (46 :: Lib.decDigits d)
  obtain ⟨k4, e4⟩ := quad_digits d hd false true [a, b, c] []
  rw [List.append_nil] at e4
  rw [quadT, e1, quad_dot _ _ _ _ (n1 _ _) (by simp)]
  show quadR _ false true 0 0 [a] = _
  rw [e2, quad_dot _ _ _ _ (n1 _ _) (by simp)]
  show quadR _ false true 0 0 [a, b] = _
  rw [e3, quad_dot _ _ _ _ (decDigits_ne d) (by simp)]
  show quadR _ false true 0 0 [a, b, c] = _
  rw [e4, quadR]; rfl
theorem digits3 (x : Nat) (hx : x < 256) : (Lib.decDigits x).length ≤ 3 := by
  rw [Lib.decDigits]
  split
  · simp
  · rename_i h
    have : (Lib.decDigits (x / 10)).length ≤ 2 := by
      by_cases h1 : x / 10 < 10
      · rw [Lib.decDigits_one h1]; simp
      · rw [Lib.decDigits_two h1 (by omega)]; simp
    simp; omega

set_option maxRecDepth 100000 in
set_option maxHeartbeats 4000000 in
theorem ipString4' (a b c d : UInt8) (g o cp : Nat) (w : World) (htab : Tab w) (h : At w g o [a, b, c, d]) :
    Calls Tryz.prog 99 #[.slice (some ⟨g, o, none⟩) 4 cp] w fun e w' => e = .returned (.string ⟨(quadT a.toNat b.toNat c.toNat d.toNat).toArray⟩) ∧ Below w.heap.size w w' := by
  have hg := h.lt (by simp)
  have hbw : Below w.heap.size w (w.alloc (.cells #[.slice (some ⟨g, o, none⟩) 4 cp] 76)) := (Below.refl _ _).alloc (Nat.le_refl _) _
  have h1 : At (w.alloc (.cells #[.slice (some ⟨g, o, none⟩) 4 cp] 76)) g o [a, b, c, d] := h.below hbw hg
  have ht1 : Tab (w.alloc (.cells #[.slice (some ⟨g, o, none⟩) 4 cp] 76)) := htab.below hbw (Nat.le_refl _)
  have hI : ∀ x : UInt8, ∃ t : ByteArray, t = ⟨(Lib.decDigits x.toNat).toArray⟩ ∧ t.size ≤ 3 ∧ Hid (∀ n os, Calls Tryz.prog 161 #[.int .i64 x.toNat] (grow ((w.alloc (.cells #[.slice (some ⟨g, o, none⟩) 4 cp] 76)).drewN n) os) fun e w' => e = .returned (.string t) ∧ ∃ q os', w' = grow ((grow ((w.alloc (.cells #[.slice (some ⟨g, o, none⟩) 4 cp] 76)).drewN n) os).drewN q) os') :=
    fun x => ⟨_, rfl, (by show (Lib.decDigits x.toNat).toArray.size ≤ 3; rw [List.size_toArray]; exact digits3 x.toNat x.toNat_lt), Lib.hid fun n os => by
      have ht : Tab (grow ((w.alloc (.cells #[.slice (some ⟨g, o, none⟩) 4 cp] 76)).drewN n) os) := ht1.below (below_grow (below_drewN (Below.refl (w.alloc (.cells #[.slice (some ⟨g, o, none⟩) 4 cp] 76)).heap.size _) n) (Nat.le_refl _) os) (Nat.le_refl _)
      have := Tryz.strconv_Itoa (x.toNat : Int) (by omega) (by have := x.toNat_lt; omega) _ ht
      rwa [Lib.itoa_nonneg] at this⟩
  obtain ⟨t1, z1, s1, i1⟩ := hI a
  obtain ⟨t2, z2, s2, i2⟩ := hI b
  obtain ⟨t3, z3, s3, i3⟩ := hI c
  obtain ⟨t4, z4, s4, i4⟩ := hI d
  have c0 : ∀ n os, (grow ((w.alloc (.cells #[.slice (some ⟨g, o, none⟩) 4 cp] 76)).drewN n) os).cell? ⟨g, o, none⟩ = some (.int .u8 a.toNat) := cell_grown (by simp; omega) (h1 0 (by simp))
  have c1 : ∀ n os, (grow ((w.alloc (.cells #[.slice (some ⟨g, o, none⟩) 4 cp] 76)).drewN n) os).cell? ⟨g, o + 1, none⟩ = some (.int .u8 b.toNat) := cell_grown (by simp; omega) (h1 1 (by simp))
  have c2 : ∀ n os, (grow ((w.alloc (.cells #[.slice (some ⟨g, o, none⟩) 4 cp] 76)).drewN n) os).cell? ⟨g, o + 2, none⟩ = some (.int .u8 c.toNat) := cell_grown (by simp; omega) (h1 2 (by simp))
  have c3 : ∀ n os, (grow ((w.alloc (.cells #[.slice (some ⟨g, o, none⟩) 4 cp] 76)).drewN n) os).cell? ⟨g, o + 3, none⟩ = some (.int .u8 d.toNat) := cell_grown (by simp; omega) (h1 3 (by simp))
  have HT : Hid (t1 ++ ⟨#[46]⟩ ++ t2 ++ ⟨#[46]⟩ ++ t3 ++ ⟨#[46]⟩ ++ t4 = (⟨(quadT a.toNat b.toNat c.toNat d.toNat).toArray⟩ : ByteArray)) := Lib.hid (by
    apply ba_ext
    have e46 : (⟨#[46]⟩ : ByteArray) = ⟨([46] : List UInt8).toArray⟩ := rfl
    rw [z2, z3, z4, e46, app_list, app_list, app_list, app_list, app_list, app_list, z1, quadT]
    simp)
  have ha := a.toNat_lt
  have hb := b.toNat_lt
  have hc := c.toNat_lt
  have hd := d.toNat_lt
  clear z1 z2 z3 z4 hI h h1 ht1 htab
  generalize a.toNat = na at *
  generalize b.toNat = nb at *
  generalize c.toNat = nc at *
  generalize d.toNat = nd at *
  have q1 : IntKind.i64.wrap (na : Int) = na := IntWalk.i64_in _ (by omega)
  have q2 : IntKind.i64.wrap (nb : Int) = nb := IntWalk.i64_in _ (by omega)
  have q3 : IntKind.i64.wrap (nc : Int) = nc := IntWalk.i64_in _ (by omega)
  have q4 : IntKind.i64.wrap (nd : Int) = nd := IntWalk.i64_in _ (by omega)
  have f1 : ¬ 9223372036854775807 < t1.size + 1 := by omega
  have f2 : ¬ 9223372036854775807 < t1.size + 1 + t2.size := by omega
  have f3 : ¬ 9223372036854775807 < t1.size + 1 + t2.size + 1 := by omega
  have f4 : ¬ 9223372036854775807 < t1.size + 1 + t2.size + 1 + t3.size := by omega
  have f5 : ¬ 9223372036854775807 < t1.size + 1 + t2.size + 1 + t3.size + 1 := by omega
  have f6 : ¬ 9223372036854775807 < t1.size + 1 + t2.size + 1 + t3.size + 1 + t4.size := by omega
  have hm : Tryz.prog.follows .mixedOrders = true := by kernel_rfl
  have HB := Lib.hid hbw
  clear ha hb hc hd s1 s2 s3 s4 hbw
  go_enter Tryz.func99, Tryz.ntmps99
  go_wp2_with (go_at_call 97; (with_reducible refine (to4_self _ _ _).mono ?_); rintro e w2 ⟨rfl, rfl⟩)
  go_quiet_grown (first
    | (go_at_call 161; with_reducible exact Calls.grown_of (i1.out _ _))
    | (go_at_call 161; with_reducible exact Calls.grown_of (i2.out _ _))
    | (go_at_call 161; with_reducible exact Calls.grown_of (i3.out _ _))
    | (go_at_call 161; with_reducible exact Calls.grown_of (i4.out _ _)))
  all_goals
    go_wp2
    go_ret
    exact ⟨congrArg (fun z => Ending.returned (.string z)) HT.out, below_grow (below_drewN HB.out _) (by simp) _⟩
end Go.Proofs.YtnpcmmjdojdmnaaGreatDoor
