/- spec.maPath. -/
import Derived.Test.YtnpcmmjdojdmnaaGreatDoorProg
import Derived.Test.YtnpcmmjdojdmnaaGreatDoorQa
import Derived.WalkKit
import Derived.WalkSpells
import Derived.WalkLawsBesides
import Derived.Lib.Hide
import Derived.Lib.Strings
import Derived.Lib.IndexBytes
import Derived.Deep.QuietTactic
import Derived.BigQuiet
import Derived.IntWalk
namespace Go.Proofs.YtnpcmmjdojdmnaaGreatDoor
open Go Go.RowKit

def okc (c : UInt8) : Bool := (97 ≤ c.toNat && c.toNat ≤ 122) || (65 ≤ c.toNat && c.toNat ≤ 90) || (48 ≤ c.toNat && c.toNat ≤ 57) || c.toNat == 46 || c.toNat == 45 || c.toNat == 95
def plainB (l : List UInt8) : Bool := l.all okc && decide (1 ≤ l.length) && decide (l.length ≤ 60)

theorem plainB_no {l : List UInt8} {k : Nat} (h : k < l.length) (hc : okc l[k] = false) : plainB l = false := by
  have : l.all okc = false := by
    rw [Bool.eq_false_iff]
    intro ha
    rw [List.all_eq_true] at ha
    have := ha _ (List.getElem_mem h)
    rw [hc] at this; cases this
  simp [plainB, this]
theorem plainB_yes {l : List UInt8} (h : ∀ j (hj : j < l.length), okc l[j] = true) : plainB l = (decide (1 ≤ l.length) && decide (l.length ≤ 60)) := by
  have : l.all okc = true := by
    rw [List.all_eq_true]
    intro x hx
    obtain ⟨i, hi, rfl⟩ := List.getElem_of_mem hx
    exact h i hi
  simp [plainB, this]

theorem okc_cases (c : UInt8) : (Hid (okc c = false) ∧ ((c.toNat : Int) < 45 ∨ (c.toNat : Int) = 47 ∨ (58 ≤ (c.toNat : Int) ∧ (c.toNat : Int) ≤ 64) ∨ (91 ≤ (c.toNat : Int) ∧ (c.toNat : Int) ≤ 94) ∨ (c.toNat : Int) = 96 ∨ 123 ≤ (c.toNat : Int))) ∨
    (Hid (okc c = true) ∧ ((c.toNat : Int) = 45 ∨ (c.toNat : Int) = 46 ∨ (48 ≤ (c.toNat : Int) ∧ (c.toNat : Int) ≤ 57) ∨ (65 ≤ (c.toNat : Int) ∧ (c.toNat : Int) ≤ 90) ∨ (c.toNat : Int) = 95 ∨ (97 ≤ (c.toNat : Int) ∧ (c.toNat : Int) ≤ 122))) := by
  by_cases h : okc c = true
  · refine Or.inr ⟨Lib.hid h, ?_⟩
    simp [okc] at h
    omega
  · refine Or.inl ⟨Lib.hid (by simpa using h), ?_⟩
    simp [okc] at h
    omega

set_option maxRecDepth 100000 in
set_option maxHeartbeats 4000000 in
theorem maPlain (s : ByteArray) (w : World) (hs : s.size ≤ maxLen) :
    Calls Tryz.prog 26 #[.string s] w fun e w' => e = .returned (.bool (plainB s.data.toList)) ∧ w = w' := by
  unfold maxLen at hs
  have hsz : s.data.toList.length = s.size := Array.length_toList
  have HSZ := Lib.hid hsz; clear hsz
  go_enter Tryz.func26, Tryz.ntmps26
  go_wp2
  go_loop [3] (fun i => ∃ k : Nat, k ≤ s.size ∧ i = .int .i64 k ∧ Hid (∀ j (hj : j < s.data.toList.length), j < k → okc s.data.toList[j] = true)) (fun i => s.size - (intOf i).toNat)
  case atStart => exact ⟨0, Nat.zero_le _, rfl, Lib.hid (fun j _ h => absurd h (Nat.not_lt_zero _))⟩
  case round =>
    obtain ⟨k, hk, rfl, hall⟩ := hrel
    by_cases hlt : k < s.size
    · have hb : (s[k].toNat : Int) < 256 := by have := s[k].toNat_lt; omega
      have hnext : okc s[k] = true → Hid (∀ j (hj : j < s.data.toList.length), j < k + 1 → okc s.data.toList[j] = true) := by
        intro ho; refine Lib.hid fun j hj hjk => ?_
        by_cases hjk' : j < k
        · exact hall.out j hj hjk'
        · obtain rfl : j = k := by omega
          exact ho
      have hbad : okc s[k] = false → plainB s.data.toList = false := fun ho => plainB_no (k := k) (by rw [HSZ.out]; exact hlt) ho
      have HN := Lib.hid hnext; clear hnext
      have HB := Lib.hid hbad; clear hbad
      rcases okc_cases s[k] with ⟨ho, h⟩ | ⟨ho, h⟩
      · rcases h with h | h | ⟨h, h'⟩ | ⟨h, h'⟩ | h | h
        · have e0 : decide ((s[k].toNat : Int) < 97) = true := by simp; omega
          have e1 : decide (122 < (s[k].toNat : Int)) = false := by simp; omega
          have e2 : decide ((s[k].toNat : Int) < 65) = true := by simp; omega
          have e3 : decide (90 < (s[k].toNat : Int)) = false := by simp; omega
          have e4 : decide ((s[k].toNat : Int) < 48) = true := by simp; omega
          have e5 : decide (57 < (s[k].toNat : Int)) = false := by simp; omega
          have e6 : ((s[k].toNat : Int) != 46) = true := by simp; omega
          have e7 : ((s[k].toNat : Int) != 45) = true := by simp; omega
          have e8 : ((s[k].toNat : Int) != 95) = true := by simp; omega
          go_wp2
          go_ret
          exact ⟨by rw [HB.out ho.out]; rfl, rfl⟩
        · go_wp2
          go_ret
          exact ⟨by rw [HB.out ho.out]; rfl, rfl⟩
        · have e0 : decide ((s[k].toNat : Int) < 97) = true := by simp; omega
          have e1 : decide (122 < (s[k].toNat : Int)) = false := by simp; omega
          have e2 : decide ((s[k].toNat : Int) < 65) = true := by simp; omega
          have e3 : decide (90 < (s[k].toNat : Int)) = false := by simp; omega
          have e4 : decide ((s[k].toNat : Int) < 48) = false := by simp; omega
          have e5 : decide (57 < (s[k].toNat : Int)) = true := by simp; omega
          have e6 : ((s[k].toNat : Int) != 46) = true := by simp; omega
          have e7 : ((s[k].toNat : Int) != 45) = true := by simp; omega
          have e8 : ((s[k].toNat : Int) != 95) = true := by simp; omega
          go_wp2
          go_ret
          exact ⟨by rw [HB.out ho.out]; rfl, rfl⟩
        · have e0 : decide ((s[k].toNat : Int) < 97) = true := by simp; omega
          have e1 : decide (122 < (s[k].toNat : Int)) = false := by simp; omega
          have e2 : decide ((s[k].toNat : Int) < 65) = false := by simp; omega
          have e3 : decide (90 < (s[k].toNat : Int)) = true := by simp; omega
          have e4 : decide ((s[k].toNat : Int) < 48) = false := by simp; omega
          have e5 : decide (57 < (s[k].toNat : Int)) = true := by simp; omega
          have e6 : ((s[k].toNat : Int) != 46) = true := by simp; omega
          have e7 : ((s[k].toNat : Int) != 45) = true := by simp; omega
          have e8 : ((s[k].toNat : Int) != 95) = true := by simp; omega
          go_wp2
          go_ret
          exact ⟨by rw [HB.out ho.out]; rfl, rfl⟩
        · go_wp2
          go_ret
          exact ⟨by rw [HB.out ho.out]; rfl, rfl⟩
        · have e0 : decide ((s[k].toNat : Int) < 97) = false := by simp; omega
          have e1 : decide (122 < (s[k].toNat : Int)) = true := by simp; omega
          have e2 : decide ((s[k].toNat : Int) < 65) = false := by simp; omega
          have e3 : decide (90 < (s[k].toNat : Int)) = true := by simp; omega
          have e4 : decide ((s[k].toNat : Int) < 48) = false := by simp; omega
          have e5 : decide (57 < (s[k].toNat : Int)) = true := by simp; omega
          have e6 : ((s[k].toNat : Int) != 46) = true := by simp; omega
          have e7 : ((s[k].toNat : Int) != 45) = true := by simp; omega
          have e8 : ((s[k].toNat : Int) != 95) = true := by simp; omega
          go_wp2
          go_ret
          exact ⟨by rw [HB.out ho.out]; rfl, rfl⟩
      · rcases h with h | h | ⟨h, h'⟩ | ⟨h, h'⟩ | h | ⟨h, h'⟩
        · go_wp2
          exact ⟨⟨k + 1, by omega, by go_num, HN.out ho.out⟩, by simp [intOf]; omega⟩
        · go_wp2
          exact ⟨⟨k + 1, by omega, by go_num, HN.out ho.out⟩, by simp [intOf]; omega⟩
        · have e0 : decide ((s[k].toNat : Int) < 97) = true := by simp; omega
          have e1 : decide (122 < (s[k].toNat : Int)) = false := by simp; omega
          have e2 : decide ((s[k].toNat : Int) < 65) = true := by simp; omega
          have e3 : decide (90 < (s[k].toNat : Int)) = false := by simp; omega
          have e4 : decide ((s[k].toNat : Int) < 48) = false := by simp; omega
          have e5 : decide (57 < (s[k].toNat : Int)) = false := by simp; omega
          have e6 : ((s[k].toNat : Int) != 46) = true := by simp; omega
          have e7 : ((s[k].toNat : Int) != 45) = true := by simp; omega
          have e8 : ((s[k].toNat : Int) != 95) = true := by simp; omega
          go_wp2
          exact ⟨⟨k + 1, by omega, by go_num, HN.out ho.out⟩, by simp [intOf]; omega⟩
        · have e0 : decide ((s[k].toNat : Int) < 97) = true := by simp; omega
          have e1 : decide (122 < (s[k].toNat : Int)) = false := by simp; omega
          have e2 : decide ((s[k].toNat : Int) < 65) = false := by simp; omega
          have e3 : decide (90 < (s[k].toNat : Int)) = false := by simp; omega
          have e4 : decide ((s[k].toNat : Int) < 48) = false := by simp; omega
          have e5 : decide (57 < (s[k].toNat : Int)) = true := by simp; omega
          have e6 : ((s[k].toNat : Int) != 46) = true := by simp; omega
          have e7 : ((s[k].toNat : Int) != 45) = true := by simp; omega
          have e8 : ((s[k].toNat : Int) != 95) = true := by simp; omega
          go_wp2
          exact ⟨⟨k + 1, by omega, by go_num, HN.out ho.out⟩, by simp [intOf]; omega⟩
        · go_wp2
          exact ⟨⟨k + 1, by omega, by go_num, HN.out ho.out⟩, by simp [intOf]; omega⟩
        · have e0 : decide ((s[k].toNat : Int) < 97) = false := by simp; omega
          have e1 : decide (122 < (s[k].toNat : Int)) = false := by simp; omega
          have e2 : decide ((s[k].toNat : Int) < 65) = false := by simp; omega
          have e3 : decide (90 < (s[k].toNat : Int)) = true := by simp; omega
          have e4 : decide ((s[k].toNat : Int) < 48) = false := by simp; omega
          have e5 : decide (57 < (s[k].toNat : Int)) = true := by simp; omega
          have e6 : ((s[k].toNat : Int) != 46) = true := by simp; omega
          have e7 : ((s[k].toNat : Int) != 45) = true := by simp; omega
          have e8 : ((s[k].toNat : Int) != 95) = true := by simp; omega
          go_wp2
          exact ⟨⟨k + 1, by omega, by go_num, HN.out ho.out⟩, by simp [intOf]; omega⟩
    · have HP : Hid (plainB s.data.toList = (decide (1 ≤ s.size) && decide (s.size ≤ 60))) := by
        refine Lib.hid ?_
        rw [plainB_yes (fun j hj => hall.out j hj (by rw [HSZ.out] at hj; omega)), HSZ.out]
      by_cases h1 : 1 ≤ s.size
      · by_cases h60 : s.size ≤ 60
        · go_wp2
          go_ret
          exact ⟨by rw [HP.out]; simp [h1, h60]; try omega, rfl⟩
        · go_wp2
          go_ret
          exact ⟨by rw [HP.out]; simp [h1, h60]; try omega, rfl⟩
      · go_wp2
        go_ret
        exact ⟨by rw [HP.out]; simp [h1], rfl⟩
end Go.Proofs.YtnpcmmjdojdmnaaGreatDoor
namespace Go.Proofs.YtnpcmmjdojdmnaaGreatDoor
open Go Go.RowKit

set_option maxRecDepth 100000 in
set_option maxHeartbeats 4000000 in
/-- zzIndex is the index of a text in a text. -/
theorem zzIndex (s sub : ByteArray) (w : World) (hs : s.size ≤ 4611686018427387904) (h1 : 1 ≤ sub.size) (hb : sub.size ≤ 4611686018427387903) :
    Calls Tryz.prog 164 #[.string s, .string sub] w fun e w' => e = .returned (.int .i64 (Lib.indexB s sub)) ∧ w = w' := by
  go_enter Tryz.func164, Tryz.ntmps164
  go_wp2
  go_loop [5] (fun i => ∃ k : Nat, k ≤ s.size ∧ i = .int .i64 k ∧ Hid (Lib.NoOccB s sub k)) (fun i => s.size - (intOf i).toNat)
  case atStart => exact ⟨0, Nat.zero_le _, rfl, Lib.hid (Lib.NoOcc.zero _ _)⟩
  case round =>
    obtain ⟨k, hk, rfl, hno⟩ := hrel
    by_cases hlt : k + sub.size ≤ s.size
    · cases hp : ((s.extract k (k + sub.size)).toList == sub.toList) with
      | true =>
        have H := Lib.hid (Lib.hit s sub k hno.out hlt hp)
        go_wp2
        go_ret
        exact ⟨by rw [H.out]; rfl, rfl⟩
      | false =>
        have H := Lib.hid (Lib.miss_piece s sub k hno.out hlt hp)
        go_wp2
        exact ⟨⟨k + 1, by omega, by go_num, H⟩, by simp [intOf]; omega⟩
    · have H := Lib.hid (Lib.past s sub k hno.out h1 (by omega))
      go_wp2
      go_ret
      exact ⟨by rw [H.out]; rfl, rfl⟩

set_option maxRecDepth 100000 in
set_option maxHeartbeats 4000000 in
/-- zzTrimRight at a text that ends otherwise than with the one byte of the set. -/
theorem zzTrimRight_no (s : ByteArray) (c : UInt8) (w : World) (hs : s.size ≤ 4611686018427387904) (h1 : 1 ≤ s.size) (hc : ((c.toNat : Int) == (s[s.size - 1].toNat : Int)) = false) :
    Calls Tryz.prog 103 #[.string s, .string ⟨#[c]⟩] w fun e w' => e = .returned (.string s) ∧ Below w.heap.size w w' := by
  have hc' : (((((⟨#[c]⟩ : ByteArray)[0]'(Nat.zero_lt_one)).toNat : Int)) == (s[s.size - 1].toNat : Int)) = false := hc
  have e1 : IntKind.i64.wrap ((s.size : Int) - 1) = (s.size : Int) - 1 := IntWalk.i64_in _ (by omega)
  have e2 : 0 ≤ (s.size : Int) - 1 := by omega
  have e3 : (s.size : Int) - 1 < (s.size : Int) := by omega
  have e4 : ((s.size : Int) - 1).toNat = s.size - 1 := by omega
  have e5 : 1 ≤ (s.size : Int) := by omega
  go_enter Tryz.func103, Tryz.ntmps103
  go_wp2
  refine wp_loop_rounds 1 ?_; rw [rounds_succ]
  go_wp2
  refine wp_loop_rounds 2 ?_; rw [rounds_succ]
  go_wp2
  go_region
  go_wp2
  rw [rounds_succ]
  go_wp2
  go_ret
  exact ⟨rfl, (Below.refl _ _).drew⟩

/-- The pieces between the slashes. -/
def pieces : Nat → ByteArray → List ByteArray
  | 0, s => [s]
  | k + 1, s => if Lib.indexB s ⟨#[47]⟩ < 0 then [s] else s.extract 0 (Lib.indexB s ⟨#[47]⟩).toNat :: pieces k (s.extract ((Lib.indexB s ⟨#[47]⟩).toNat + 1) s.size)

theorem info9 : (Tryz.prog.info? 9).map (fun i => (i.zero, i.size, i.bytes)) = some (some (.string ⟨#[]⟩), 1, 16) := by kernel_rfl

set_option maxRecDepth 100000 in
set_option maxHeartbeats 4000000 in
theorem zzSplit_slash (s : ByteArray) (w : World) (hs : s.size ≤ 1000000) :
    Calls Tryz.prog 104 #[.string s, .string ⟨#[47]⟩] w fun e w' => ∃ v, e = .returned v ∧ w'.ownsRow w.heap.size 9 1 v (pieces s.size s).length ((pieces s.size s).map Value.string) ∧ Below w.heap.size w w' := by
  obtain ⟨i0, hi, hz0, hz1, hz2⟩ := info_parts info9
  go_enter Tryz.func104, Tryz.ntmps104
  go_wp2
  go_loopw [0, 5] (fun v0 v5 wr => ∃ (done : List ByteArray) (rest : ByteArray) (k : Nat), v0 = .string rest ∧ rest.size ≤ k ∧ k ≤ s.size ∧ done.length + rest.size ≤ s.size ∧ Hid (pieces s.size s = done ++ pieces k rest) ∧
      wr.ownsRow w.heap.size 9 1 v5 done.length (done.map Value.string) ∧ Below w.heap.size w wr) (fun v0 _ _ => match v0 with | .string r => r.size | _ => 0)
  case atStart => exact ⟨[], s, s.size, rfl, Nat.le_refl _, Nat.le_refl _, by simp, Lib.hid rfl, World.ownsRow_nil _ _ _ _, Below.refl _ _⟩
  case round =>
    obtain ⟨done, rest, k, rfl, hrk, hks, hlen, hp, hown, hbel⟩ := hrel
    by_cases hneg : Lib.indexB rest ⟨#[47]⟩ < 0
    · have HP : Hid (pieces s.size s = done ++ [rest]) := by
        refine Lib.hid ?_
        rw [hp.out]
        cases k with
        | zero => rfl
        | succ k => rw [pieces, if_pos hneg]
      have hone : ∀ u ∈ [Value.string rest], u.oneCell' = true := by intro u hu; simp at hu; subst hu; rfl
      go_wp2_with (first
        | (go_at_call 164; refine (zzIndex _ _ _ (by omega) (by decide) (by decide)).mono ?_; rintro e w1 ⟨rfl, rfl⟩)
        | (at_builtin; refine wpList_append_own _ rfl (.tmp 12) (.tmp 14) 117 rfl w.heap.size 9 i0 (.string ⟨#[]⟩) 1 16 Tryz.underlying117 hi hz0 hz1 hz2 rfl (by decide) _ _ _ rfl (hown.alloc _) ⟨wr.heap.size, 0, none⟩ 1 1 [.string rest] rfl rfl (cell_one_new _ _ _) hone ?c3 ?c4 ?c5 ?_))
      case c3 => unfold maxLen; omega
      case c4 => omega
      case c5 => have := hbel.size; simp; omega
      intro v' w1 hown' hgrow _
      go_wp2
      go_ret
      refine ⟨v', rfl, ?_, ?_⟩
      · rw [HP.out]; simpa using hown'
      · exact (hbel.alloc hbel.size _).grown hgrow (by have := hbel.size; simp; omega) (fun j hj => (hown.lt j hj).1)
    · obtain ⟨i, hi1, hi2⟩ : ∃ i : Nat, Lib.indexB rest ⟨#[47]⟩ = i ∧ i < rest.size := by
        obtain ⟨i, h⟩ : ∃ i : Nat, Lib.indexB rest ⟨#[47]⟩ = i := ⟨(Lib.indexB rest ⟨#[47]⟩).toNat, by omega⟩
        refine ⟨i, h, ?_⟩
        have h2 : Lib.index rest.data.toList [47] = i := h
        rw [Lib.index_one] at h2
        have h3 := (Lib.indexByte_some h2).1
        have h4 := (List.getElem?_eq_some_iff.1 h3).1
        rwa [← Lib.size_eq] at h4
      have HP : Hid (∃ k', k = k' + 1 ∧ pieces s.size s = (done ++ [rest.extract 0 i]) ++ pieces k' (rest.extract (i + 1) rest.size)) := by
        refine Lib.hid ?_
        cases k with
        | zero => omega
        | succ k =>
          refine ⟨k, rfl, ?_⟩
          rw [hp.out, pieces, if_neg hneg, hi1]
          simp
      have hone : ∀ u ∈ [Value.string (rest.extract 0 i)], u.oneCell' = true := by intro u hu; simp at hu; subst hu; rfl
      have HC : ∀ wx, Calls Tryz.prog 164 #[.string rest, .string ⟨#[47]⟩] wx (fun e w' => e = .returned (.int .i64 (i : Int)) ∧ wx = w') := by
        intro wx
        have := zzIndex rest ⟨#[47]⟩ wx (by omega) (by decide) (by decide)
        rwa [hi1] at this
      have hsz : (rest.extract (i + 1) rest.size).size = rest.size - (i + 1) := by rw [ByteArray.size_extract]; omega
      have HS := Lib.hid hsz; clear hsz
      have HI := Lib.hid hi1; clear hi1
      clear hneg
      go_wp2_with (first
        | (go_at_call 164; refine (HC _).mono ?_; rintro e w1 ⟨rfl, rfl⟩)
        | (at_builtin; refine wpList_append_own _ rfl (.tmp 16) (.tmp 20) 117 rfl w.heap.size 9 i0 (.string ⟨#[]⟩) 1 16 Tryz.underlying117 hi hz0 hz1 hz2 rfl (by decide) _ _ _ rfl (hown.alloc _) ⟨wr.heap.size, 0, none⟩ 1 1 [.string (rest.extract 0 i)] rfl rfl (cell_one_new _ _ _) hone ?d3 ?d4 ?d5 ?_))
      case d3 => unfold maxLen; omega
      case d4 => omega
      case d5 => have := hbel.size; simp; omega
      intro v' w1 hown' hgrow _
      have hbel' : Below w.heap.size w w1 := (hbel.alloc hbel.size _).grown hgrow (by have := hbel.size; simp; omega) (fun j hj => (hown.lt j hj).1)
      have hown2 : w1.ownsRow w.heap.size 9 1 v' (done ++ [rest.extract 0 i]).length ((done ++ [rest.extract 0 i]).map Value.string) := by simpa using hown'
      clear hown' hgrow hown hbel
      go_wp2
      obtain ⟨k', hk', hp'⟩ := HP.out
      refine ⟨⟨done ++ [rest.extract 0 i], rest.extract (i + 1) rest.size, k', rfl, ?_, ?_, ?_, Lib.hid hp', hown2, hbel'⟩, ?_⟩
      · rw [HS.out]; omega
      · omega
      · rw [HS.out]; simp; omega
      · simp only [HS.out]; omega
end Go.Proofs.YtnpcmmjdojdmnaaGreatDoor
namespace Go.Proofs.YtnpcmmjdojdmnaaGreatDoor
open Go Go.RowKit

/-- A path of plain names, each with a slash ahead of it. -/
def pathB : List UInt8 → Bool
  | [] => false
  | x :: r => x == 47 && plainB (r.takeWhile (· != 47)) && ((r.dropWhile (· != 47)).isEmpty || pathB (r.dropWhile (· != 47)))
termination_by l => l.length
decreasing_by
  have := (List.dropWhile_suffix (l := r) (p := (· != 47))).length_le
  simp; omega

theorem while_at : ∀ (n : Nat) (r : List UInt8), n ≤ r.length → (∀ j (h : j < r.length), j < n → r[j] ≠ 47) → (∀ h : n < r.length, r[n] = 47) → r.takeWhile (· != 47) = r.take n ∧ r.dropWhile (· != 47) = r.drop n
  | 0, [], _, _, _ => by simp
  | 0, x :: r, _, _, h => by
    have := h (by simp)
    simp at this
    simp [this]
  | n + 1, [], hn, _, _ => by simp at hn
  | n + 1, x :: r, hn, ha, h => by
    have h0 : x ≠ 47 := ha 0 (by simp) (by omega)
    obtain ⟨h1, h2⟩ := while_at n r (by simpa using hn) (fun j hj hjn => by have := ha (j + 1) (by simpa using hj) (by omega); simpa using this) (fun hlt => by have := h (by simpa using hlt); simpa using this)
    simp [h0, h1, h2]

theorem toList_extract (s : ByteArray) (a b : Nat) : (s.extract a b).data.toList = (s.data.toList.drop a).take (b - a) := by
  rw [ByteArray.data_extract, Array.toList_extract, List.extract_eq_take_drop]

theorem pathB_no0 {r : ByteArray} (h0 : 0 < r.size) (h : r[0] ≠ 47) : pathB r.data.toList = false := by
  obtain ⟨x, l, hl⟩ : ∃ x l, r.data.toList = x :: l := List.exists_cons_of_length_pos (by rw [Array.length_toList]; exact h0)
  have hx : r[0] = x := by
    show r.data[0] = x
    rw [← Array.getElem_toList]; simp [hl]
  rw [hl, pathB]
  rw [hx] at h
  simp [h]
theorem pathB_step {r : ByteArray} {n : Nat} (h0 : 0 < r.size) (h : r[0] = 47) (h1 : 1 ≤ n) (hn : n ≤ r.size) (ha : ∀ j (hj : j < r.size), 1 ≤ j → j < n → r[j] ≠ 47) (he : ∀ hj : n < r.size, r[n] = 47) :
    pathB r.data.toList = (plainB (r.extract 1 n).data.toList && ((r.extract n r.size).data.toList.isEmpty || pathB (r.extract n r.size).data.toList)) := by
  have hlen : r.data.toList.length = r.size := Array.length_toList
  have hget : ∀ j (hj : j < r.size), r.data.toList[j]? = some r[j] := fun j hj => by
    rw [List.getElem?_eq_getElem (by rw [hlen]; exact hj)]; rfl
  rw [toList_extract, toList_extract]
  generalize r.data.toList = L at hlen hget ⊢
  cases L with
  | nil => simp at hlen; omega
  | cons x l =>
    have hx : x = 47 := by have := hget 0 h0; simp at this; rw [this, h]
    simp only [List.length_cons] at hlen
    obtain ⟨k, rfl⟩ : ∃ k, n = k + 1 := ⟨n - 1, by omega⟩
    obtain ⟨w1, w2⟩ := while_at k l (by omega) (fun j hj hjk => by
      have := hget (j + 1) (by omega)
      simp [hj] at this
      rw [this]; exact ha (j + 1) (by omega) (by omega) (by omega)) (fun hlt => by
      have := hget (k + 1) (by omega)
      simp [hlt] at this
      rw [this]; exact he (by omega))
    rw [pathB, w1, w2]
    have e2 : (List.drop (k + 1) (x :: l)).take (r.size - (k + 1)) = l.drop k := by
      rw [List.drop_succ_cons, List.take_of_length_le (by rw [List.length_drop]; omega)]
    rw [e2]
    simp [hx]

set_option maxRecDepth 100000 in
set_option maxHeartbeats 4000000 in
theorem maPath (s : ByteArray) (w : World) (hs : s.size ≤ maxLen) :
    Calls Tryz.prog 25 #[.string s] w fun e w' => e = .returned (.bool (pathB s.data.toList)) ∧ w = w' := by
  have HP := Lib.hid (fun (t : ByteArray) (ht : t.size ≤ maxLen) (wx : World) => maPlain t wx ht)
  unfold maxLen at *
  by_cases hz : s.size = 0
  · have hs0 : s = ⟨#[]⟩ := by
      have h : s.data.size = 0 := hz
      have := Array.eq_empty_of_size_eq_zero h
      cases s; simp at this; subst this; rfl
    subst hs0
    have HP2 := Lib.hid (show pathB (⟨#[]⟩ : ByteArray).data.toList = false by rw [show (⟨#[]⟩ : ByteArray).data.toList = [] from rfl, pathB])
    go_enter Tryz.func25, Tryz.ntmps25
    go_wp2
    refine wp_loop_rounds 1 ?_; rw [rounds_succ]
    go_wp2
    go_ret
    exact ⟨by rw [HP2.out]; rfl, rfl⟩
  go_enter Tryz.func25, Tryz.ntmps25
  go_wp2
  go_loop [0] (fun v => ∃ r : ByteArray, v = .string r ∧ 1 ≤ r.size ∧ r.size ≤ s.size ∧ Hid (pathB s.data.toList = pathB r.data.toList)) (fun v => match v with | .string r => r.size | _ => 0)
  case atStart => exact ⟨s, rfl, by omega, Nat.le_refl _, Lib.hid rfl⟩
  case round =>
    obtain ⟨r, rfl, hr1, hrs, hp⟩ := hrel
    have e0 : decide (0 < (r.size : Int)) = true := by simp; omega
    have e1 : (0 : Nat) < r.size := by omega
    by_cases h47 : (r[0].toNat : Int) = 47
    · have e2 : ((r[0].toNat : Int) != 47) = false := by simp [h47]
      have HS := Lib.hid (fun n => pathB_step (r := r) (n := n) e1 (by apply UInt8.toNat_inj.1; simp; omega)); 
      go_wp2
      go_loop [3] (fun i => ∃ k : Nat, 1 ≤ k ∧ k ≤ r.size ∧ i = .int .i64 k ∧ Hid (∀ j (hj : j < r.size), 1 ≤ j → j < k → r[j] ≠ 47)) (fun i => r.size - (intOf i).toNat)
      case atStart => exact ⟨1, Nat.le_refl _, hr1, rfl, Lib.hid (fun j _ h1 h2 => by omega)⟩
      case round =>
        obtain ⟨n, hn1, hn, rfl, hall⟩ := hrel
        by_cases hlt : n < r.size
        · by_cases hn47 : (r[n].toNat : Int) = 47
          · have e3 : ((r[n].toNat : Int) != 47) = false := by simp [hn47]
            have HX := Lib.hid (HS.out n hn1 hn hall.out (fun _ => by apply UInt8.toNat_inj.1; simp; omega))
            have HC : ∀ wx, Calls Tryz.prog 26 #[.string (r.extract 1 n)] wx (fun e w' => e = .returned (.bool (plainB (r.extract 1 n).data.toList)) ∧ wx = w') := fun wx => HP.out _ (by rw [ByteArray.size_extract]; omega) wx
            cases hpl : plainB (r.extract 1 n).data.toList with
            | false =>
              rw [hpl] at HC
              go_wp2_with (go_at_call 26; with_reducible refine (HC _).mono ?_; rintro e w1 ⟨rfl, rfl⟩)
              go_ret
              exact ⟨by rw [hp.out, HX.out, hpl]; rfl, rfl⟩
            | true =>
              rw [hpl] at HC
              have hsz : (r.extract n r.size).size = r.size - n := by rw [ByteArray.size_extract]; omega
              have HZ := Lib.hid hsz; clear hsz
              have hne : (r.extract n r.size).data.toList ≠ [] := by
                intro h
                have h2 := congrArg List.length h
                rw [Array.length_toList] at h2
                have := HZ.out
                change (r.extract n r.size).size = 0 at h2
                omega
              have he : ((r.extract n r.size).toList == []) = false := by
                rw [ByteArray.toList_eq]; simpa using hne
              have HE : Hid (pathB s.data.toList = pathB (r.extract n r.size).data.toList) := by
                refine Lib.hid ?_
                rw [hp.out, HX.out, hpl]
                cases hq : (r.extract n r.size).data.toList with
                | nil => exact absurd hq hne
                | cons _ _ => rfl
              clear hne
              go_wp2_with (go_at_call 26; with_reducible refine (HC _).mono ?_; rintro e w1 ⟨rfl, rfl⟩)
              refine ⟨⟨_, rfl, by rw [HZ.out]; omega, by rw [HZ.out]; omega, HE⟩, ?_⟩
              show (r.extract n r.size).size < r.size
              rw [HZ.out]; omega
          · have e3 : ((r[n].toNat : Int) != 47) = true := by simp [hn47]
            have HN : Hid (∀ j (hj : j < r.size), 1 ≤ j → j < n + 1 → r[j] ≠ 47) := Lib.hid (fun j hj h1 h2 => by
              by_cases hjn : j < n
              · exact hall.out j hj h1 hjn
              · obtain rfl : j = n := by omega
                intro h; apply hn47; rw [h]; rfl)
            go_wp2
            exact ⟨⟨n + 1, by omega, by omega, by go_num, HN⟩, by simp [intOf]; omega⟩
        · have HX := Lib.hid (HS.out n hn1 hn hall.out (fun h => absurd h hlt))
          obtain rfl : n = r.size := by omega
          have HC : ∀ wx, Calls Tryz.prog 26 #[.string (r.extract 1 r.size)] wx (fun e w' => e = .returned (.bool (plainB (r.extract 1 r.size).data.toList)) ∧ wx = w') := fun wx => HP.out _ (by rw [ByteArray.size_extract]; omega) wx
          cases hpl : plainB (r.extract 1 r.size).data.toList with
          | false =>
            rw [hpl] at HC
            go_wp2_with (go_at_call 26; with_reducible refine (HC _).mono ?_; rintro e w1 ⟨rfl, rfl⟩)
            go_ret
            exact ⟨by rw [hp.out, HX.out, hpl]; rfl, rfl⟩
          | true =>
            rw [hpl] at HC
            have he : r.extract r.size r.size = ⟨#[]⟩ := by
              have h : (r.extract r.size r.size).data.size = 0 := by show (r.extract r.size r.size).size = 0; rw [ByteArray.size_extract]; omega
              have := Array.eq_empty_of_size_eq_zero h
              generalize r.extract r.size r.size = z at *
              cases z; simp at this; subst this; rfl
            go_wp2_with (go_at_call 26; with_reducible refine (HC _).mono ?_; rintro e w1 ⟨rfl, rfl⟩)
            go_ret
            exact ⟨by rw [hp.out, HX.out, hpl, he]; rfl, rfl⟩
    · have e2 : ((r[0].toNat : Int) != 47) = true := by simp [h47]
      have HX := Lib.hid (pathB_no0 e1 (fun h => h47 (by rw [h]; rfl)))
      go_wp2
      go_ret
      exact ⟨by rw [hp.out, HX.out]; rfl, rfl⟩
end Go.Proofs.YtnpcmmjdojdmnaaGreatDoor
