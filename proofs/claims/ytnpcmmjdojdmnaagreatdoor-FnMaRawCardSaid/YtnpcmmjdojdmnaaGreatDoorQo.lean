/- zzNamed at every name of the table; ProtocolWithName. zzFields4: a dotted quad is read. ZZParseAddr, zzParseIP at a dotted quad. The transcoders' StringToBytes for ip4 and for ports. The wrapped transcoders: StringToBytes, ValidateBytes. -/
import Derived.Test.YtnpcmmjdojdmnaaGreatDoorQm
import Derived.Test.YtnpcmmjdojdmnaaGreatDoorQn
import Derived.Test.YtnpcmmjdojdmnaaGreatDoorQh
import Derived.Test.YtnpcmmjdojdmnaaGreatDoorQc
import Derived.IntWalk
import Derived.Test.YtnpcmmjdojdmnaaGreatDoorShelf
import Derived.WalkSpells
import Derived.WalkLawsBesides
namespace Go.Proofs.YtnpcmmjdojdmnaaGreatDoor
open Go Go.RowKit

theorem zzNamed (c : Int) (hk : known c = true) (w : World) : Calls Tryz.prog 165 #[.string (pname c)] w fun e w' => ∃ vc, e = .returned (.agg #[.string (pname c), .int .i64 c, vc, .int .i64 (psz c), .bool (ppath c), tcv c]) ∧ Fresh w.heap.size w' vc (Lib.uvarint c.toNat) ∧ Below w.heap.size w w' := by
  rcases known_cases c with rfl | rfl | rfl | rfl | rfl | rfl | rfl | rfl | rfl | rfl | rfl | rfl | rfl | rfl | rfl | rfl | rfl | rfl | rfl | rfl | rfl | rfl | rfl | rfl | rfl | rfl | rfl | rfl | rfl | rfl | rfl | rfl | rfl | rfl | rfl | rfl | rfl | rfl | h
  · exact zzNamed4 w
  · exact zzNamed6 w
  · exact zzNamed33 w
  · exact zzNamed41 w
  · exact zzNamed42 w
  · exact zzNamed43 w
  · exact zzNamed53 w
  · exact zzNamed54 w
  · exact zzNamed55 w
  · exact zzNamed56 w
  · exact zzNamed132 w
  · exact zzNamed273 w
  · exact zzNamed276 w
  · exact zzNamed280 w
  · exact zzNamed281 w
  · exact zzNamed290 w
  · exact zzNamed301 w
  · exact zzNamed302 w
  · exact zzNamed400 w
  · exact zzNamed421 w
  · exact zzNamed443 w
  · exact zzNamed444 w
  · exact zzNamed445 w
  · exact zzNamed446 w
  · exact zzNamed447 w
  · exact zzNamed448 w
  · exact zzNamed449 w
  · exact zzNamed454 w
  · exact zzNamed460 w
  · exact zzNamed461 w
  · exact zzNamed465 w
  · exact zzNamed466 w
  · exact zzNamed477 w
  · exact zzNamed478 w
  · exact zzNamed480 w
  · exact zzNamed481 w
  · exact zzNamed777 w
  · exact zzNamed7367777 w
  · simp [known, row_none h] at hk

theorem protocolWithName (c : Int) (hk : known c = true) (w : World) : Calls Tryz.prog 105 #[.string (pname c)] w fun e w' => ∃ vc, e = .returned (.agg #[.string (pname c), .int .i64 c, vc, .int .i64 (psz c), .bool (ppath c), tcv c]) ∧ Fresh w.heap.size w' vc (Lib.uvarint c.toNat) ∧ Below w.heap.size w w' := by
  have HC := zzNamed c hk
  have hT := tcv_form c
  generalize tcv c = tv at *
  generalize pname c = nm at *
  have HH := Lib.hid HC; clear HC
  rcases hT with rfl | ⟨x, rfl⟩
  all_goals
    go_enter Tryz.func105, Tryz.ntmps105
    go_wp2_with (go_at_call 165; refine (HH.out _).mono ?_; rintro e w2 ⟨v, rfl, ⟨g, hg1, hg2, rfl, hg4⟩, hb⟩; obtain ⟨hc, hf⟩ := bcell hb; have hz : w.heap.size < w2.heap.size := (by have := hb.size; simp at this; omega))
    refine bodyPost_ret (v := .agg #[.string nm, .int .i64 c, .slice (some ⟨g, 0, none⟩) (Lib.uvarint c.toNat).length (Lib.uvarint c.toNat).length, .int .i64 (psz c), .bool (ppath c), _]) (by simp [results, Tryz.results105, go_sem, hc]) rfl ⟨_, rfl, ?_, ?_⟩
    · have hF : Fresh (w.heap.size + 1) w2 (.slice (some ⟨g, 0, none⟩) (Lib.uvarint c.toNat).length (Lib.uvarint c.toNat).length) (Lib.uvarint c.toNat) := ⟨g, by simpa using hg1, hg2, rfl, hg4⟩
      exact hF.set6 _ _ _ _ _ _
    · exact below_set6 (below_under hb) _ _ _ _ _ _

end Go.Proofs.YtnpcmmjdojdmnaaGreatDoor
namespace Go.Proofs.YtnpcmmjdojdmnaaGreatDoor
open Go Go.RowKit

/-- The reader of dotted quads: what is left, whether it stands at the beginning, whether a dot stands ahead, the number so far, its digits, the numbers read. -/
def quadR : List UInt8 → Bool → Bool → Nat → Nat → List Nat → Option (List Nat)
  | [], _, _, val, _, outs => if outs.length < 3 then none else some (outs ++ [val])
  | x :: r, first, pd, val, dig, outs =>
    if 48 ≤ x.toNat ∧ x.toNat ≤ 57 then
      if dig = 1 ∧ val = 0 then none
      else if 255 < val * 10 + x.toNat - 48 then none
      else quadR r false false (val * 10 + x.toNat - 48) (dig + 1) outs
    else if x.toNat = 46 then
      if first = true ∨ r = [] ∨ pd = true ∨ outs.length = 3 then none else quadR r false true 0 0 (outs ++ [val])
    else none

/-- Bytes put into a block, one behind the other. -/
def setL (w : World) (g off : Nat) : List Nat → World
  | [] => w
  | x :: xs => setL (w.setCell ⟨g, off, none⟩ (.int .u8 x)) g (off + 1) xs
theorem setL_snoc : ∀ (xs : List Nat) (w : World) (g off x : Nat), setL w g off (xs ++ [x]) = (setL w g off xs).setCell ⟨g, off + xs.length, none⟩ (.int .u8 x)
  | [], _, _, _, _ => rfl
  | y :: ys, w, g, off, x => by
    rw [List.cons_append, setL, setL, setL_snoc ys]
    congr 2
    simp; omega
theorem setL_frozen (g off : Nat) : ∀ (xs : List Nat) (w : World) (o : Nat) (a : Addr), (setL w g o xs).frozen? a = w.frozen? a
  | [], _, _, _ => rfl
  | y :: ys, w, o, a => by rw [setL, setL_frozen g off ys]; simp [go_sem]
theorem setL_isSome (g : Nat) : ∀ (xs : List Nat) (w : World) (o : Nat) (a : Addr), (w.cell? a).isSome = true → ((setL w g o xs).cell? a).isSome = true
  | [], _, _, _, h => h
  | y :: ys, w, o, a, h => by
    rw [setL]
    refine setL_isSome g ys _ _ _ ?_
    by_cases ha : (⟨g, o, none⟩ : Addr) = a
    · subst ha; rw [World.cell?_setCell_same' _ _ _ h]; rfl
    · rw [World.cell?_setCell_other _ _ _ _ ha]; exact h

set_option maxRecDepth 100000 in
set_option maxHeartbeats 4000000 in
theorem zzFields4 (s : ByteArray) (res : List Nat) (hq : quadR s.data.toList true false 0 0 [] = some res) (g off cp : Nat) (w : World) (hs : s.size ≤ 1000000) (_hcp : 4 ≤ cp)
    (hc : ∀ j, j < 4 → (w.cell? ⟨g, off + j, none⟩).isSome = true) (hf : ∀ j, w.frozen? ⟨g, j, none⟩ = false) :
    Calls Tryz.prog 339 #[.string s, .slice (some ⟨g, off, none⟩) 4 cp] w fun e w' => e = .returned (.bool true) ∧ w' = setL w g off res ∧ res.length = 4 := by
  have hlen : s.data.toList.length = s.size := Array.length_toList
  have HLEN := Lib.hid hlen; clear hlen
  have HD : Hid (∀ k (h : k < s.size), s.data.toList.drop k = s[k] :: s.data.toList.drop (k + 1)) := Lib.hid fun k h => by
    rw [List.drop_eq_getElem_cons (by rw [HLEN.out]; exact h)]; rfl
  have HC := Lib.hid hc; clear hc
  have HQ := Lib.hid hq; clear hq
  go_enter Tryz.func339, Tryz.ntmps339
  go_wp2
  go_loopw [5, 6, 7, 8] (fun v5 v6 v7 v8 wr => ∃ (k val dig : Nat) (pd : Bool) (outs : List Nat), v5 = .int .i64 val ∧ v6 = .int .i64 outs.length ∧ v7 = .int .i64 dig ∧ v8 = .int .i64 k ∧ k ≤ s.size ∧ val ≤ 255 ∧ dig ≤ k ∧ outs.length ≤ 3 ∧ wr = setL w g off outs ∧
      Hid (quadR (s.data.toList.drop k) (decide (k = 0)) pd val dig outs = some res) ∧ Hid (∀ (h : k - 1 < s.size), 1 ≤ k → pd = (s[k - 1].toNat == 46))) (fun _ _ _ v8 _ => s.size - (intOf v8).toNat)
  case atStart => exact ⟨0, 0, 0, false, [], rfl, rfl, rfl, rfl, Nat.zero_le _, by omega, Nat.le_refl _, by simp, rfl, HQ, Lib.hid (fun _ h => by omega)⟩
  case round =>
    obtain ⟨k, val, dig, pd, outs, rfl, rfl, rfl, rfl, hk, hval, hdig, houts, rfl, hq, hpd⟩ := hrel
    by_cases hlt : k < s.size
    · have hx := s[k].toNat_lt
      have hq2 := hq.out
      rw [HD.out k hlt, quadR] at hq2
      by_cases h48 : 48 ≤ s[k].toNat ∧ s[k].toNat ≤ 57
      · rw [if_pos h48] at hq2
        by_cases hz : dig = 1 ∧ val = 0
        · rw [if_pos hz] at hq2; cases hq2
        rw [if_neg hz] at hq2
        by_cases h255 : 255 < val * 10 + s[k].toNat - 48
        · rw [if_pos h255] at hq2; cases hq2
        rw [if_neg h255] at hq2
        have HQ2 := Lib.hid hq2; clear hq2
        have e0 : decide (48 ≤ (s[k].toNat : Int)) = true := by simp; omega
        have e1 : decide ((s[k].toNat : Int) ≤ 57) = true := by simp; omega
        have q1 : IntKind.i64.wrap ((val : Int) * 10) = (val : Int) * 10 := IntWalk.i64_in _ (by omega)
        have q2 : IntKind.i64.wrap ((val : Int) * 10 + (s[k].toNat : Int)) = (val : Int) * 10 + (s[k].toNat : Int) := IntWalk.i64_in _ (by omega)
        have q3 : IntKind.i64.wrap ((val : Int) * 10 + (s[k].toNat : Int) - 48) = ((val * 10 + s[k].toNat - 48 : Nat) : Int) := by rw [IntWalk.i64_in _ (by omega)]; omega
        have q4 : decide (255 < ((val * 10 + s[k].toNat - 48 : Nat) : Int)) = false := by simp; omega
        obtain ⟨v, hv⟩ : ∃ v, v = val * 10 + s[k].toNat - 48 := ⟨_, rfl⟩
        rw [← hv] at q3 q4 HQ2
        by_cases hd1 : dig = 1
        · have d1 : ((dig : Int) == 1) = true := by simp [hd1]
          have d2 : ((val : Int) == 0) = false := by simp; omega
          clear hd1 hz
          go_wp2
          refine ⟨⟨k + 1, v, dig + 1, false, outs, by rw [hv], rfl, by go_num, by go_num, by omega, by omega, by omega, houts, rfl, ?_, ?_⟩, by simp [intOf]; omega⟩
          · refine Lib.hid ?_
            have := HQ2.out
            simpa using this
          · refine Lib.hid fun h _ => ?_
            simp only [Nat.add_sub_cancel]
            symm; simp; omega
        · have d1 : ((dig : Int) == 1) = false := by simp; omega
          clear hz
          go_wp2
          refine ⟨⟨k + 1, v, dig + 1, false, outs, by rw [hv], rfl, by go_num, by go_num, by omega, by omega, by omega, houts, rfl, ?_, ?_⟩, by simp [intOf]; omega⟩
          · refine Lib.hid ?_
            have := HQ2.out
            simpa using this
          · refine Lib.hid fun h _ => ?_
            simp only [Nat.add_sub_cancel]
            symm; simp; omega
      · rw [if_neg h48] at hq2
        by_cases h46 : s[k].toNat = 46
        · rw [if_pos h46] at hq2
          by_cases hbad : decide (k = 0) = true ∨ s.data.toList.drop (k + 1) = [] ∨ pd = true ∨ outs.length = 3
          · rw [if_pos hbad] at hq2; cases hq2
          rw [if_neg hbad] at hq2
          have b1 : k ≠ 0 := fun h => hbad (Or.inl (by simp [h]))
          have b2 : k + 1 < s.size := by
            by_cases h : k + 1 < s.size
            · exact h
            · exact absurd (Or.inr (Or.inl (List.drop_of_length_le (by rw [HLEN.out]; omega)))) hbad
          have b3 : (s[k - 1].toNat == 46) = false := by
            rw [← hpd.out (by omega) (by omega)]
            cases pd with
            | false => rfl
            | true => exact absurd (Or.inr (Or.inr (Or.inl rfl))) hbad
          have b4 : outs.length ≠ 3 := fun h => hbad (Or.inr (Or.inr (Or.inr h)))
          clear hbad
          have HQ2 := Lib.hid hq2; clear hq2
          obtain ⟨u0, hcell⟩ := Option.isSome_iff_exists.1 (setL_isSome g outs w off ⟨g, off + outs.length, none⟩ (HC.out _ (by omega)))
          have hfr : (setL w g off outs).frozen? ⟨g, off + outs.length, none⟩ = false := by rw [setL_frozen g off]; exact hf _
          have b3' : ((s[k - 1].toNat : Int) == 46) = false := by
            rw [beq_eq_false_iff_ne] at b3 ⊢; omega
          clear b3
          by_cases d0 : decide (48 ≤ (s[k].toNat : Int)) = true
          · simp at d0; omega
          have e0 : decide (48 ≤ (s[k].toNat : Int)) = false := by simpa using d0
          clear d0
          have e1 : ((s[k].toNat : Int) == 46) = true := by simp [h46]
          have e2 : ((k : Int) == 0) = false := by simp; omega
          have e3 : IntKind.i64.wrap ((s.size : Int) - 1) = (s.size : Int) - 1 := IntWalk.i64_in _ (by omega)
          have e4 : ((k : Int) == (s.size : Int) - 1) = false := by simp; omega
          have e5 : IntKind.i64.wrap ((k : Int) - 1) = (k : Int) - 1 := IntWalk.i64_in _ (by omega)
          have e6 : 0 ≤ (k : Int) - 1 := by omega
          have e7 : (k : Int) - 1 < (s.size : Int) := by omega
          have e8 : ((k : Int) - 1).toNat = k - 1 := by omega
          have e9 : ((outs.length : Int) == 3) = false := by simp; omega
          have ea : IntKind.u8.wrap (val : Int) = (val : Int) := IntWalk.u8_in _ (by omega)
          have eb : (outs.length : Int) < 4 := by omega
          go_wp2
          refine ⟨⟨k + 1, 0, 0, true, outs ++ [val], rfl, by simp, rfl, by go_num, by omega, by omega, by omega, by rw [List.length_append]; simp; omega, ?_, ?_, ?_⟩, by simp [intOf]; omega⟩
          · rw [setL_snoc]
          · refine Lib.hid ?_
            have := HQ2.out
            simpa using this
          · refine Lib.hid fun h _ => ?_
            simp only [Nat.add_sub_cancel]
            symm; simp; omega
        · rw [if_neg h46] at hq2; cases hq2
    · have hk2 : k = s.size := by omega
      subst hk2
      have hq2 := hq.out
      rw [List.drop_of_length_le (by rw [HLEN.out]; exact Nat.le_refl _), quadR] at hq2
      by_cases h3 : outs.length < 3
      · rw [if_pos h3] at hq2; cases hq2
      rw [if_neg h3] at hq2
      obtain rfl : outs ++ [val] = res := Option.some.inj hq2
      clear hq2 hq HQ
      obtain ⟨a, b, c, rfl⟩ : ∃ a b c, outs = [a, b, c] := by
        match outs, houts, h3 with
        | [], _, h => simp at h
        | [_], _, h => simp at h
        | [_, _], _, h => simp at h
        | [a, b, c], _, _ => exact ⟨a, b, c, rfl⟩
        | _ :: _ :: _ :: _ :: _, h, _ => simp at h
      obtain ⟨u0, hcell⟩ := Option.isSome_iff_exists.1 (setL_isSome g [a, b, c] w off ⟨g, off + 3, none⟩ (HC.out _ (by omega)))
      have hfr : (setL w g off [a, b, c]).frozen? ⟨g, off + 3, none⟩ = false := by rw [setL_frozen g off]; exact hf _
      have ea : IntKind.u8.wrap (val : Int) = (val : Int) := IntWalk.u8_in _ (by omega)
      have HW : Hid ((setL w g off [a, b, c]).setCell ⟨g, off + 3, none⟩ (.int .u8 val) = setL w g off ([a, b, c] ++ [val])) := Lib.hid (by rw [setL_snoc]; rfl)
      clear hlt
      have hl3 : ((([a, b, c] : List Nat).length : Nat) : Int) = 3 := rfl
      generalize setL w g off [a, b, c] = wr at *
      go_wp2
      go_ret
      exact ⟨rfl, HW.out, by simp⟩
end Go.Proofs.YtnpcmmjdojdmnaaGreatDoor
namespace Go.Proofs.YtnpcmmjdojdmnaaGreatDoor
open Go Go.RowKit

theorem quadR_chars : ∀ (r : List UInt8) (f pd : Bool) (v d : Nat) (o res : List Nat), quadR r f pd v d o = some res → ∀ x ∈ r, (48 ≤ x.toNat ∧ x.toNat ≤ 57) ∨ x.toNat = 46
  | [], _, _, _, _, _, _, _ => by simp
  | y :: r, f, pd, v, d, o, res, h => by
    rw [quadR] at h
    intro x hx
    split at h
    · rename_i h48
      split at h
      · cases h
      · split at h
        · cases h
        · rcases List.mem_cons.1 hx with rfl | hx
          · exact Or.inl h48
          · exact quadR_chars r _ _ _ _ _ _ h x hx
    · split at h
      · rename_i h46
        split at h
        · cases h
        · rcases List.mem_cons.1 hx with rfl | hx
          · exact Or.inr h46
          · exact quadR_chars r _ _ _ _ _ _ h x hx
      · cases h
theorem quadR_nodot : ∀ (r : List UInt8) (f pd : Bool) (v d : Nat) (o res : List Nat), quadR r f pd v d o = some res → (∀ x ∈ r, x.toNat ≠ 46) → 3 ≤ o.length
  | [], _, _, _, _, o, _, h, _ => by
    rw [quadR] at h
    split at h
    · cases h
    · omega
  | y :: r, f, pd, v, d, o, res, h, hn => by
    rw [quadR] at h
    split at h
    · split at h
      · cases h
      · split at h
        · cases h
        · exact quadR_nodot r _ _ _ _ _ _ h (fun x hx => hn x (List.mem_cons_of_mem _ hx))
    · split at h
      · rename_i h46
        exact absurd h46 (hn y (List.mem_cons_self ..))
      · cases h

set_option maxRecDepth 100000 in
set_option maxHeartbeats 4000000 in
theorem parseAddr (s : ByteArray) (a b c d : Nat) (hq : quadR s.data.toList true false 0 0 [] = some [a, b, c, d]) (w : World) (hs : s.size ≤ 1000000) :
    Calls Tryz.prog 279 #[.string s] w fun e w' => e = .returned (.tuple #[.agg #[.int .u8 0, .int .u8 0, .int .u8 0, .int .u8 0, .int .u8 0, .int .u8 0, .int .u8 0, .int .u8 0, .int .u8 0, .int .u8 0, .int .u8 255, .int .u8 255, .int .u8 a, .int .u8 b, .int .u8 c, .int .u8 d], .bool true, .bool true]) ∧ Below w.heap.size w w' := by
  have hlen : s.data.toList.length = s.size := Array.length_toList
  have hch : Hid (∀ k (h : k < s.size), (48 ≤ s[k].toNat ∧ s[k].toNat ≤ 57) ∨ s[k].toNat = 46) := Lib.hid fun k h => quadR_chars _ _ _ _ _ _ _ hq s[k] (by
    have : s.data.toList[k]'(by rw [hlen]; exact h) = s[k] := rfl
    rw [← this]; exact List.getElem_mem _)
  have hnd : Hid (¬ ∀ j (h : j < s.size), s[j].toNat ≠ 46) := Lib.hid fun hn => by
    have := quadR_nodot _ _ _ _ _ _ _ hq (fun x hx => by
      obtain ⟨j, hj, rfl⟩ := List.getElem_of_mem hx
      exact hn j (by rw [← hlen]; exact hj))
    simp at this
  have HQ := Lib.hid hq; clear hq hlen
  go_enter Tryz.func279, Tryz.ntmps279
  go_wp2
  go_loop [5] (fun v => ∃ k : Nat, v = .int .i64 k ∧ k ≤ s.size ∧ Hid (∀ j (h : j < s.size), j < k → s[j].toNat ≠ 46)) (fun v => s.size - (intOf v).toNat)
  case atStart => exact ⟨0, rfl, Nat.zero_le _, Lib.hid (fun _ _ h => by omega)⟩
  case round =>
    obtain ⟨k, rfl, hk, hall⟩ := hrel
    by_cases hlt : k < s.size
    · by_cases h46 : s[k].toNat = 46
      · have e1 : ((s[k].toNat : Int) == 46) = true := by simp [h46]
        go_wp2_with (go_at_call 339; with_reducible refine (zzFields4 s _ HQ.out _ _ _ _ hs (by decide) (by intro j hj; obtain rfl | rfl | rfl | rfl : j = 0 ∨ j = 1 ∨ j = 2 ∨ j = 3 := (by omega); all_goals simp [go_sem]) (by intro j; simp [go_sem])).mono ?_; rintro e w2 ⟨rfl, rfl, -⟩; simp only [setL])
        refine bodyPost_ret (v := .tuple #[.agg #[.int .u8 0, .int .u8 0, .int .u8 0, .int .u8 0, .int .u8 0, .int .u8 0, .int .u8 0, .int .u8 0, .int .u8 0, .int .u8 0, .int .u8 255, .int .u8 255, .int .u8 a, .int .u8 b, .int .u8 c, .int .u8 d], .bool true, .bool true]) (by simp [results, Tryz.results279, go_sem]) rfl ⟨rfl, ?_⟩
        exact (Below.refl _ _).alloc (Nat.le_refl _) _
      · have h := hch.out k hlt
        have hx := s[k].toNat_lt
        have e1 : ((s[k].toNat : Int) == 46) = false := by simp; omega
        have e2 : ((s[k].toNat : Int) == 58) = false := by simp; omega
        have e3 : ((s[k].toNat : Int) == 37) = false := by simp; omega
        clear h
        go_wp2
        refine ⟨⟨k + 1, by go_num, by omega, Lib.hid fun j h hj => ?_⟩, by simp [intOf]; omega⟩
        by_cases hjk : j < k
        · exact hall.out j h hjk
        · obtain rfl : j = k := by omega
          exact h46
    · exact absurd (fun j h => hall.out j h (by omega)) hnd.out

/-- The sixteen bytes of a version-4 address. -/
abbrev v4cells (a b c d : Nat) : Array Value := #[.int .u8 0, .int .u8 0, .int .u8 0, .int .u8 0, .int .u8 0, .int .u8 0, .int .u8 0, .int .u8 0, .int .u8 0, .int .u8 0, .int .u8 255, .int .u8 255, .int .u8 a, .int .u8 b, .int .u8 c, .int .u8 d]

set_option maxRecDepth 100000 in
set_option maxHeartbeats 4000000 in
theorem parseIP (s : ByteArray) (a b c d : Nat) (hq : quadR s.data.toList true false 0 0 [] = some [a, b, c, d]) (w : World) (hs : s.size ≤ 1000000) :
    Calls Tryz.prog 245 #[.string s] w fun e w' => ∃ w2, e = .returned (.slice (some ⟨w2.heap.size, 0, none⟩) 16 16) ∧ w' = w2.alloc (.cells (v4cells a b c d) 219) ∧ Below w.heap.size w w2 := by
  have HP := Lib.hid (parseAddr s a b c d hq w hs)
  clear hq
  go_enter Tryz.func245, Tryz.ntmps245
  go_wp2_with (go_at_call 279; with_reducible refine HP.out.mono ?_; rintro e w2 ⟨rfl, hb⟩)
  go_ret
  exact ⟨w2, rfl, rfl, hb⟩
end Go.Proofs.YtnpcmmjdojdmnaaGreatDoor
namespace Go.Proofs.YtnpcmmjdojdmnaaGreatDoor
open Go Go.RowKit

/-- A slice of bytes in memory that is new. -/
def NewB (B : Nat) (w : World) (v : Value) (l : List UInt8) : Prop :=
  ∃ g o cp, v = .slice (some ⟨g, o, none⟩) l.length cp ∧ B ≤ g ∧ g < w.heap.size ∧ ∀ j (h : j < l.length), w.cell? ⟨g, o + j, none⟩ = some (.int .u8 l[j].toNat)

theorem NewB.below {B B' : Nat} {w w' : World} {v : Value} {l : List UInt8} (h : NewB B w v l) (hb : Below B' w w') (hB : w.heap.size ≤ B') : NewB B w' v l := by
  obtain ⟨g, o, cp, h1, h2, h3, h4⟩ := h
  exact ⟨g, o, cp, h1, h2, Nat.lt_of_lt_of_le h3 hb.size, fun j hj => (hb.cell (p := ⟨g, o + j, none⟩) (by simp only; omega)).trans (h4 j hj)⟩
theorem NewB.mono {B B' : Nat} {w : World} {v : Value} {l : List UInt8} (h : NewB B w v l) (hB : B' ≤ B) : NewB B' w v l := by
  obtain ⟨g, o, cp, h1, h2, h3⟩ := h
  exact ⟨g, o, cp, h1, Nat.le_trans hB h2, h3⟩

set_option maxRecDepth 100000 in
set_option maxHeartbeats 4000000 in
theorem isZeros10 (g cp : Nat) (w : World) (hc : ∀ j, j < 10 → w.cell? ⟨g, j, none⟩ = some (.int .u8 0)) :
    Calls Tryz.prog 158 #[.slice (some ⟨g, 0, none⟩) 10 cp] w fun e w' => e = .returned (.bool true) ∧ w = w' := by
  go_enter Tryz.func158, Tryz.ntmps158
  go_wp2
  go_loop [3] (fun v => ∃ k : Nat, v = .int .i64 k ∧ k ≤ 10) (fun v => 10 - (intOf v).toNat)
  case atStart => exact ⟨0, rfl, Nat.zero_le _⟩
  case round =>
    obtain ⟨k, rfl, hk⟩ := hrel
    by_cases hlt : k < 10
    · have h := hc k hlt
      clear hc
      go_wp2
      exact ⟨⟨k + 1, by go_num, by omega⟩, by simp [intOf]; omega⟩
    · clear hc
      go_wp2
      go_ret
      exact ⟨rfl, rfl⟩

set_option maxRecDepth 100000 in
set_option maxHeartbeats 4000000 in
theorem to4 (a b c d : Nat) (g : Nat) (w : World) (hc : ∀ j (h : j < 16), w.cell? ⟨g, j, none⟩ = some ((v4cells a b c d)[j]'(by simpa using h))) :
    Calls Tryz.prog 97 #[.slice (some ⟨g, 0, none⟩) 16 16] w fun e w' => e = .returned (.slice (some ⟨g, 12, none⟩) 4 4) ∧ w = w' := by
  have h10 : w.cell? ⟨g, 10, none⟩ = some (.int .u8 255) := hc 10 (by omega)
  have h11 : w.cell? ⟨g, 11, none⟩ = some (.int .u8 255) := hc 11 (by omega)
  have hz : ∀ cp, Calls Tryz.prog 158 #[.slice (some ⟨g, 0, none⟩) 10 cp] w fun e w' => e = .returned (.bool true) ∧ w = w' := fun cp => isZeros10 g cp w fun j hj => by
    have := hc j (by omega)
    rw [this]
    obtain rfl | rfl | rfl | rfl | rfl | rfl | rfl | rfl | rfl | rfl : j = 0 ∨ j = 1 ∨ j = 2 ∨ j = 3 ∨ j = 4 ∨ j = 5 ∨ j = 6 ∨ j = 7 ∨ j = 8 ∨ j = 9 := by omega
    all_goals rfl
  have HZ := Lib.hid hz; clear hz hc
  go_enter Tryz.func97, Tryz.ntmps97
  go_wp2_with (go_at_call 158; with_reducible refine (HZ.out _).mono ?_; rintro e w2 ⟨rfl, rfl⟩)
  go_ret
  exact ⟨rfl, rfl⟩

/-- The bytes of four numbers. -/
abbrev quadBytes (a b c d : Nat) : List UInt8 := [UInt8.ofNat a, UInt8.ofNat b, UInt8.ofNat c, UInt8.ofNat d]

set_option maxRecDepth 100000 in
set_option maxHeartbeats 4000000 in
theorem ip4StB (s : ByteArray) (a b c d : Nat) (ha : a < 256) (hb : b < 256) (hc : c < 256) (hd : d < 256) (hq : quadR s.data.toList true false 0 0 [] = some [a, b, c, d]) (w : World) (hs : s.size ≤ 1000000) :
    Calls Tryz.prog 199 #[.string s] w fun e w' => ∃ v, e = .returned (.tuple #[v, .nilIface]) ∧ NewB w.heap.size w' v (quadBytes a b c d) ∧ Below w.heap.size w w' := by
  have HP := Lib.hid (parseIP s a b c d hq w hs)
  clear hq
  have hA := Lib.hid (And.intro (And.intro ha hb) (And.intro hc hd)); clear ha hb hc hd
  have HT : ∀ w2 : World, Calls Tryz.prog 97 #[.slice (some ⟨w2.heap.size, 0, none⟩) 16 16] (w2.alloc (.cells (v4cells a b c d) 219)) fun e w' => e = .returned (.slice (some ⟨w2.heap.size, 12, none⟩) 4 4) ∧ (w2.alloc (.cells (v4cells a b c d) 219)) = w' :=
    fun w2 => to4 a b c d w2.heap.size _ fun j h => by
      rw [World.cell?_alloc_new]; simp [h]
  have hnil : ∀ (w : World) (g : Nat), (binOp .eql 76 (.slice (some ⟨g, 12, none⟩) 4 4) (.slice none 0 0)).run Tryz.prog w = .ok (.bool false) w := fun w g => by
    simp [binOp, run_equal_slice_nil w 76 5 (some ⟨g, 12, none⟩) 4 4 Tryz.underlying76, Result.andThen]
  go_enter Tryz.func199, Tryz.ntmps199
  go_wp2_with (first
    | (go_at_call 245; with_reducible refine HP.out.mono ?_; rintro e w2 ⟨w3, rfl, rfl, hbe⟩)
    | (go_at_call 97; with_reducible refine (HT _).mono ?_; rintro e w4 ⟨rfl, rfl⟩))
  go_ret2
  refine ⟨_, rfl, ⟨w3.heap.size, 12, 4, rfl, hbe.size, by simp, ?_⟩, hbe.alloc hbe.size _⟩
  obtain ⟨⟨ha, hb⟩, hc, hd⟩ := hA.out
  intro j hj
  obtain rfl | rfl | rfl | rfl : j = 0 ∨ j = 1 ∨ j = 2 ∨ j = 3 := by simp at hj; omega
  all_goals (rw [World.cell?_alloc_new]; simp [Nat.mod_eq_of_lt, *])

set_option maxRecDepth 100000 in
set_option maxHeartbeats 4000000 in
theorem portStB (s : ByteArray) (u : Nat) (h : Lib.parseUintB 16 s.data.toList = .ok u) (hu : u < 65536) (w : World) (hs : s.size ≤ 1000000) :
    Calls Tryz.prog 201 #[.string s] w fun e w' => ∃ v, e = .returned (.tuple #[v, .nilIface]) ∧ NewB w.heap.size w' v (Lib.beBytes 2 u) ∧ Below w.heap.size w w' := by
  have HP : ∀ wx, Calls Tryz.prog 246 #[.string s, .int .i64 10, .int .i64 16] wx fun e w' => e = .returned (.tuple #[.int .u64 u, .nilIface]) ∧ Below wx.heap.size wx w' := fun wx => by
    refine (Tryz.strconv_ParseUint_10_at16_ok s (by omega) u h wx).mono ?_
    rintro e w' ⟨rfl, rfl | rfl⟩
    · exact ⟨rfl, Below.refl _ _⟩
    · exact ⟨rfl, Lib.bytesWorld_below _ _ _⟩
  clear h
  have HP' := Lib.hid HP; clear HP
  obtain ⟨i0, hi, hz0, hz1, hz2⟩ := info_parts info5
  go_enter Tryz.func201, Tryz.ntmps201
  go_wp2_with (first
    | (go_at_call 246; with_reducible refine (HP'.out _).mono ?_; rintro e w2 ⟨rfl, hbe⟩)
    | (at_make; refine wpList_make_full _ rfl (.const (.int .i64 2)) (.const (.int .i64 2)) 22 rfl w.heap.size 5 i0 (.int .u8 0) 1 Tryz.underlying22 hi hz0 hz1 .i64 .i64 _ _ 2 rfl rfl rfl rfl ?c1 ?c2 hbe.size ?_))
  case c1 => rw [hz2]; decide
  case c2 => decide
  intro w3 hown hgrow
  have hsz : w2.heap.size < w3.heap.size := (hown.lt w2.heap.size rfl).2
  have hbel : Below w.heap.size w w3 := hbe.trans ⟨hgrow.os, hgrow.tape, hgrow.output, hgrow.size, fun k hk => hgrow.block k (by have := hbe.size; omega) (by simp)⟩
  have c0 : w3.cell? ⟨w2.heap.size, 0, none⟩ = some (.int .u8 0) := by rw [hown.cellAt 0 (by decide)]; first | (simp [madeCells]; done) | kernel_rfl
  have c1 : w3.cell? ⟨w2.heap.size, 1, none⟩ = some (.int .u8 0) := by rw [hown.cellAt 1 (by decide)]; first | (simp [madeCells]; done) | kernel_rfl
  have f0 := hown.frozenAt 0
  have f1 := hown.frozenAt 1
  have hlt := hbe.size
  clear hown hgrow hbe
  go_wp2_with (go_at_call 247; with_reducible refine (Tryz.binary_BE_PutUint16 w2.heap.size 0 2 2 u hu (.int .u8 0) (.int .u8 0) _ (by decide) (by first | exact c0 | (simp [go_sem, c0])) (by first | exact c1 | (simp [go_sem, c1])) (by first | exact f0 | (simp [go_sem, f0])) (by first | exact f1 | (simp [go_sem, f1]))).mono ?_; rintro e w4 ⟨rfl, rfl⟩)
  go_ret2
  have hb4 : Below w.heap.size w ((w3.alloc (.cells #[] 182)).setCells w2.heap.size 0 (Lib.byteCells (Lib.beBytes 2 u))) :=
    (hbel.alloc (by omega) _).trans (Lib.below_setCells_w hlt _ _ _)
  refine ⟨_, rfl, ⟨w2.heap.size, 0, 2, rfl, hlt, ?_, ?_⟩, hb4⟩
  · refine Nat.lt_of_lt_of_le (m := (w3.alloc (.cells #[] 182)).heap.size) (by simp; omega) (Lib.below_setCells_w (B := w2.heap.size) (Nat.le_refl _) _ _ _).size
  · intro j hj
    have hl : (Lib.byteCells (Lib.beBytes 2 u)).length = (Lib.beBytes 2 u).length := by simp [Lib.byteCells]
    have := World.cell?_setCells_in w2.heap.size (Lib.byteCells (Lib.beBytes 2 u)) 0 (w3.alloc (.cells #[] 182)) (fun j hj => by
      obtain rfl | rfl : j = 0 ∨ j = 1 := by rw [hl] at hj; simp [Lib.beBytes, Lib.leBytes] at hj; omega
      · rw [World.cell?_alloc_past _ _ _ hsz, c0]; rfl
      · rw [World.cell?_alloc_past _ _ _ hsz, c1]; rfl) j (by omega)
    rw [this, byteCells_getElem _ _ _ hj]
end Go.Proofs.YtnpcmmjdojdmnaaGreatDoor
namespace Go.Proofs.YtnpcmmjdojdmnaaGreatDoor
open Go Go.RowKit

/-- What a reader of texts gives. -/
def Reads (f : Nat) (s : ByteArray) (l : List UInt8) : Prop :=
  ∀ w : World, Calls Tryz.prog f #[.string s] w fun e w' => ∃ v, e = .returned (.tuple #[v, .nilIface]) ∧ NewB w.heap.size w' v l ∧ Below w.heap.size w w'

set_option maxRecDepth 100000 in
set_option maxHeartbeats 4000000 in
theorem twStB199 (s : ByteArray) (l : List UInt8) (h : Reads 199 s l) (w : World) :
    Calls Tryz.prog 429 #[.agg #[.func (.func 199) #[] #[], .func (.func 200) #[] #[], .nilFunc], .string s] w fun e w' => ∃ v, e = .returned (.tuple #[v, .nilIface]) ∧ NewB w.heap.size w' v l ∧ Below w.heap.size w w' := by
  have HP := Lib.hid h; clear h
  go_enter Tryz.func429, Tryz.ntmps429
  go_wp2_with (go_at_call 199; refine (HP.out _).mono ?_; rintro e w2 ⟨v, rfl, ⟨g, o, cp, rfl, h2, h3, h4⟩, hb⟩)
  go_ret2
  exact ⟨_, rfl, ⟨g, o, cp, rfl, by simp at h2; omega, h3, h4⟩, below_under hb⟩

set_option maxRecDepth 100000 in
set_option maxHeartbeats 4000000 in
theorem twStB201 (s : ByteArray) (l : List UInt8) (h : Reads 201 s l) (w : World) :
    Calls Tryz.prog 429 #[.agg #[.func (.func 201) #[] #[], .func (.func 202) #[] #[], .nilFunc], .string s] w fun e w' => ∃ v, e = .returned (.tuple #[v, .nilIface]) ∧ NewB w.heap.size w' v l ∧ Below w.heap.size w w' := by
  have HP := Lib.hid h; clear h
  go_enter Tryz.func429, Tryz.ntmps429
  go_wp2_with (go_at_call 201; refine (HP.out _).mono ?_; rintro e w2 ⟨v, rfl, ⟨g, o, cp, rfl, h2, h3, h4⟩, hb⟩)
  go_ret2
  exact ⟨_, rfl, ⟨g, o, cp, rfl, by simp at h2; omega, h3, h4⟩, below_under hb⟩

set_option maxRecDepth 100000 in
set_option maxHeartbeats 4000000 in
theorem twVal (a b : Nat) (v : Value) (w : World) :
    Calls Tryz.prog 430 #[.agg #[.func (.func a) #[] #[], .func (.func b) #[] #[], .nilFunc], v] w fun e w' => e = .returned .nilIface ∧ Below w.heap.size w w' := by
  have hq : ∀ w, (binOp .eql 135 .nilFunc .nilFunc).run Tryz.prog w = .ok (.bool true) w := fun _ => by kernel_rfl
  go_enter Tryz.func430, Tryz.ntmps430
  go_wp2
  go_ret
  exact ⟨rfl, (Below.refl _ _).alloc (Nat.le_refl _) _⟩
end Go.Proofs.YtnpcmmjdojdmnaaGreatDoor
