/- Simple components are such as the reader takes. spec.MaReadVarint (38) at any bytes. The plain law of FnMaRaw: division by the table alone. impl.address (39) with wide bounds; Multiaddr.Bytes (40) of any length; MaBytesOf (19). spec.MaAddress (17): an address that it takes is simple. spec.MaAlike (18) of any length; MaBytesOf (19). -/
import Derived.Test.YtnpcmmjdojdmnaaGreatDoorSa
import Derived.Test.YtnpcmmjdojdmnaaGreatDoorQi
import Derived.BigGuard
import Derived.BigQuiet
import Derived.Test.YtnpcmmjdojdmnaaGreatDoorQr
import Derived.Test.YtnpcmmjdojdmnaaGreatDoorRf
import Derived.Test.YtnpcmmjdojdmnaaGreatDoorSf
import Derived.Lib.QuietBelow
namespace Go.Proofs.YtnpcmmjdojdmnaaGreatDoor
open Go

theorem plain_no47 {l : List UInt8} (h : plainB l = true) : l.contains 47 = false ∧ 1 ≤ l.length ∧ l.length ≤ 60 := by
  simp only [plainB, Bool.and_eq_true, decide_eq_true_eq] at h
  obtain ⟨⟨h1, h2⟩, h3⟩ := h
  refine ⟨?_, h2, h3⟩
  rw [List.all_eq_true] at h1
  rw [Bool.eq_false_iff]
  intro hc
  have := h1 47 (by simpa using hc)
  exact absurd this (by decide)

theorem path_ends : ∀ (n : Nat) (l : List UInt8), l.length ≤ n → pathB l = true → 2 ≤ l.length ∧ l.getD 0 0 = 47 ∧ l.getD (l.length - 1) 0 ≠ 47
  | n, [], _, h => by simp [pathB] at h
  | 0, x :: r, hn, _ => by simp at hn
  | n + 1, x :: r, hn, h => by
    rw [pathB] at h
    simp only [Bool.and_eq_true, Bool.or_eq_true] at h
    obtain ⟨⟨hx, hp⟩, hr⟩ := h
    obtain ⟨hno, hp1, -⟩ := plain_no47 hp
    have hx : x = 47 := by simpa using hx
    have hsplit := List.takeWhile_append_dropWhile (p := (· != (47 : UInt8))) (l := r)
    obtain ⟨a, ha⟩ : ∃ a, a = r.takeWhile (· != 47) := ⟨_, rfl⟩
    obtain ⟨d, hd⟩ : ∃ d, d = r.dropWhile (· != 47) := ⟨_, rfl⟩
    rw [← ha] at hno hp1 hsplit
    rw [← hd] at hr hsplit
    have hlen : a.length + d.length = r.length := by rw [← hsplit, List.length_append]
    refine ⟨by rw [List.length_cons]; omega, by simp [hx], ?_⟩
    rcases hr with hr | hr
    · have hd0 : d = [] := by simpa using hr
      have hra : r = a := by rw [← hsplit, hd0, List.append_nil]
      subst hra
      intro hc
      have h1 : (x :: r).getD ((x :: r).length - 1) 0 = r[r.length - 1] := by
        rw [List.length_cons, Nat.add_sub_cancel]
        obtain ⟨m, hm⟩ : ∃ m, r.length = m + 1 := ⟨r.length - 1, by omega⟩
        simp [hm, List.getD]
      rw [h1] at hc
      have : r.contains 47 = true := by
        rw [List.contains_iff_mem, ← hc]
        exact List.getElem_mem _
      rw [this] at hno
      cases hno
    · have hdl : d.length ≤ n := by rw [List.length_cons] at hn; omega
      obtain ⟨g1, _, g3⟩ := path_ends n d hdl hr
      intro hc
      apply g3
      have e : (x :: r).length - 1 = (a.length + 1) + (d.length - 1) := by rw [List.length_cons]; omega
      rw [← hsplit] at hc
      rw [← hc]
      have e2 : (x :: (a ++ d)).length - 1 = (a.length + 1) + (d.length - 1) := by rw [List.length_cons, List.length_append]; omega
      rw [e2]
      simp only [List.getD]
      rw [← List.cons_append, show a.length + 1 + (d.length - 1) = (x :: a).length + (d.length - 1) by rw [List.length_cons], List.getElem?_append_right (by omega), Nat.add_sub_cancel_left]

theorem chk_pos {c : Int} {l : List UInt8} (hk : known c = true) (h0 : 0 ≤ psz c) (h4 : c ≠ 444) (h5 : c ≠ 445) : chk c l = true := by
  rcases known_cases c with rfl | rfl | rfl | rfl | rfl | rfl | rfl | rfl | rfl | rfl | rfl | rfl | rfl | rfl | rfl | rfl | rfl | rfl | rfl | rfl | rfl | rfl | rfl | rfl | rfl | rfl | rfl | rfl | rfl | rfl | rfl | rfl | rfl | rfl | rfl | rfl | rfl | rfl | h
  all_goals first
    | (exfalso; exact absurd h0 (by decide))
    | (exfalso; exact h4 rfl)
    | (exfalso; exact h5 rfl)
    | simp [chk, btsOk, valOk]
    | skip
  simp [known, row_none h] at hk

theorem simple_okC {c : Int} {l : List UInt8} (h : simpleB c l = true) (hl : l.length ≤ 2147483647) : OkC c l := by
  rw [simpleB, Bool.and_eq_true] at h
  obtain ⟨hk, h⟩ := h
  refine ⟨hk, ?_⟩
  split at h
  · rename_i h0
    simp only [Bool.and_eq_true, decide_eq_true_eq, bne_iff_ne] at h
    obtain ⟨⟨h1, h4⟩, h5⟩ := h
    by_cases hz : psz c = 0
    · exact Or.inl ⟨hz, List.length_eq_zero_iff.1 (by omega)⟩
    · exact Or.inr ⟨hz, chk_pos hk h0 h4 h5, Or.inr h1.symm⟩
  · rename_i h0
    have hn : psz c < 0 := by omega
    split at h
    · rename_i h4
      obtain ⟨g1, g2, g3⟩ := path_ends l.length l (Nat.le_refl _) h
      subst h4
      refine Or.inr ⟨by omega, ?_, Or.inl ⟨hn, by omega, hl⟩⟩
      have hb : btsOk 400 l = true := by simp [btsOk]
      rw [chk, hb, Bool.true_and, valOk, if_neg (by decide), if_pos rfl]
      simp only [Bool.and_eq_true, decide_eq_true_eq, beq_iff_eq, bne_iff_ne]
      exact ⟨⟨g1, g2⟩, g3⟩
    · rename_i h4
      split at h
      · rename_i hc
        obtain ⟨g1, g2, g3⟩ := plain_no47 h
        refine Or.inr ⟨by omega, ?_, Or.inl ⟨hn, g2, by omega⟩⟩
        have hb : btsOk c l = true := by
          rw [btsOk, if_neg (by omega), if_neg (by omega), if_neg (by omega), if_neg (by omega), if_neg (by omega)]
        rw [chk, hb, valOk, if_pos hc, g1]
        rfl
      · cases h
end Go.Proofs.YtnpcmmjdojdmnaaGreatDoor
namespace Go.Proofs.YtnpcmmjdojdmnaaGreatDoor
open Go Go.RowKit

/-- What the law's reader of varints hands back. -/
def RdV (r : Option (Nat × Nat)) (e : Ending) : Prop := match r with
  | some (v, n) => e = .returned (.tuple #[.int .u64 v, .int .i64 n, .bool true])
  | none => ∃ v n : Nat, e = .returned (.tuple #[.int .u64 v, .int .i64 n, .bool false])

set_option maxHeartbeats 32000000 in
set_option maxRecDepth 100000 in
theorem readVarint38 (g o n c : Nat) (l : List UInt8) (w : World) (hl : l.length = n) (hcell : At w g o l) :
    Calls Tryz.prog 38 #[.slice (some ⟨g, o, none⟩) n c] w fun e w' => RdV (rdVar l) e ∧ Below w.heap.size w w' := by
  go_enter Tryz.func38, Tryz.ntmps38
  go_wp2
  go_loop [5, 6] (fun vx vi => ∃ k acc : Nat, vi = .int .i64 k ∧ vx = .int .u64 acc ∧ k ≤ 9 ∧ k ≤ n ∧ acc < 2 ^ (7 * k) ∧ rdVar l = rdGo k acc (l.drop k))
    (fun _ vi => n - (intOf vi).toNat)
  case atStart => exact ⟨0, 0, rfl, rfl, by omega, by omega, by decide, rfl⟩
  case round =>
    obtain ⟨k, acc, rfl, rfl, hk10, hkn, hacc, hdec⟩ := hrel
    by_cases hk : k < n
    · have hc := hcell k (by omega)
      have hdrop : l.drop k = l[k]'(by omega) :: l.drop (k + 1) := List.drop_eq_getElem_cons (by omega)
      rw [hdrop] at hdec
      generalize l[k]'(by omega) = b at hc hdec
      have hb256 : b.toNat < 256 := b.toNat_lt
      clear hcell hdrop
      have hks : k = 0 ∨ k = 1 ∨ k = 2 ∨ k = 3 ∨ k = 4 ∨ k = 5 ∨ k = 6 ∨ k = 7 ∨ k = 8 ∨ k = 9 := by omega
      rcases hks with rfl | rfl | rfl | rfl | rfl | rfl | rfl | rfl | rfl | rfl
      · have hacc' : acc < 1 := by simpa using hacc
        obtain rfl : acc = 0 := by omega
        have hc0 : w.cell? ⟨g, o, none⟩ = some (.int .u8 b.toNat) := hc
        have hor : bits .or .u64 0 ((b.toNat : Int) % 128) = ((0 + b.toNat % 128 * 1 : Nat) : Int) := by
          have e1 : (b.toNat : Int) % 128 = ((b.toNat % 128 : Nat) : Int) := by omega
          rw [e1, u64_orv0 _ _ (by omega) (by omega) (by omega) (by omega) (by omega)]
          omega
        by_cases hb : b.toNat < 128
        · by_cases hz : b.toNat = 0
          · have hF : rdGo 0 0 (b :: l.drop (0 + 1)) = some (b.toNat % 128, 1) := by simp [rdGo, hz]
            have HD := Lib.hid (hdec.trans hF)
            clear hdec hF hz
            go_wp2
            go_quiet (fail)
            go_wp2
            go_ret3
            rw [HD.out]
            exact ⟨rfl, below_drewN (Below.refl _ _) _⟩
          · have hF : rdGo 0 0 (b :: l.drop (0 + 1)) = some (b.toNat % 128, 1) := by
              have : b.toNat % 128 = b.toNat := by omega
              rw [this]; simp [rdGo, hb]
            have HD := Lib.hid (hdec.trans hF)
            clear hdec hF
            go_wp2
            go_quiet (fail)
            go_wp2
            go_ret3
            rw [HD.out]
            exact ⟨rfl, below_drewN (Below.refl _ _) _⟩
        · have hF : rdGo 0 0 (b :: l.drop (0 + 1)) = rdGo 1 (0 + b.toNat % 128 * 1) (l.drop (0 + 1)) := by simp [rdGo, hb]
          have HD := Lib.hid (hdec.trans hF)
          clear hdec hF
          go_wp2
          refine ⟨⟨1, 0 + b.toNat % 128 * 1, rfl, (by first | rfl | (congr 1; omega)), by omega, by omega, ?_, HD.out⟩, by simp [intOf]; omega⟩
          have e2 : (2 : Nat) ^ (7 * 1) = 128 := by decide
          rw [e2]
          omega
      · have hacc' : acc < 128 := by simpa using hacc
        have hor : bits .or .u64 (acc : Int) ((b.toNat : Int) % 128 * 128) = ((acc + b.toNat % 128 * 128 : Nat) : Int) := by
          have e1 : (b.toNat : Int) % 128 = ((b.toNat % 128 : Nat) : Int) := by omega
          rw [e1, u64_orv7 _ _ (by omega) (by omega) (by omega) (by omega) (by omega)]
          omega
        by_cases hb : b.toNat < 128
        · by_cases hz : b.toNat = 0
          · have hF : rdGo 1 acc (b :: l.drop (1 + 1)) = none := by simp [rdGo, hz]
            have HD := Lib.hid (hdec.trans hF)
            have ez : ((b.toNat : Int) != 0) = false := by rw [hz]; rfl
            clear hdec hF hz
            go_wp2
            go_quiet (fail)
            go_wp2
            go_ret3
            rw [HD.out]
            exact ⟨⟨_, _, rfl⟩, below_drewN (Below.refl _ _) _⟩
          · have hF : rdGo 1 acc (b :: l.drop (1 + 1)) = some (acc + b.toNat % 128 * 128, 2) := by
              have : b.toNat % 128 = b.toNat := by omega
              rw [this]; simp [rdGo, hb, hz]
            have HD := Lib.hid (hdec.trans hF)
            have ez : ((b.toNat : Int) != 0) = true := by rw [bne_iff_ne]; omega
            clear hdec hF hz
            go_wp2
            go_quiet (fail)
            go_wp2
            go_ret3
            rw [HD.out]
            exact ⟨rfl, below_drewN (Below.refl _ _) _⟩
        · have hF : rdGo 1 acc (b :: l.drop (1 + 1)) = rdGo 2 (acc + b.toNat % 128 * 128) (l.drop (1 + 1)) := by simp [rdGo, hb]
          have HD := Lib.hid (hdec.trans hF)
          clear hdec hF
          go_wp2
          refine ⟨⟨2, acc + b.toNat % 128 * 128, rfl, (by first | rfl | (congr 1; omega)), by omega, by omega, ?_, HD.out⟩, by simp [intOf]; omega⟩
          have e2 : (2 : Nat) ^ (7 * 2) = 16384 := by decide
          rw [e2]
          omega
      · have hacc' : acc < 16384 := by simpa using hacc
        have hor : bits .or .u64 (acc : Int) ((b.toNat : Int) % 128 * 16384) = ((acc + b.toNat % 128 * 16384 : Nat) : Int) := by
          have e1 : (b.toNat : Int) % 128 = ((b.toNat % 128 : Nat) : Int) := by omega
          rw [e1, u64_orv14 _ _ (by omega) (by omega) (by omega) (by omega) (by omega)]
          omega
        by_cases hb : b.toNat < 128
        · by_cases hz : b.toNat = 0
          · have hF : rdGo 2 acc (b :: l.drop (2 + 1)) = none := by simp [rdGo, hz]
            have HD := Lib.hid (hdec.trans hF)
            have ez : ((b.toNat : Int) != 0) = false := by rw [hz]; rfl
            clear hdec hF hz
            go_wp2
            go_quiet (fail)
            go_wp2
            go_ret3
            rw [HD.out]
            exact ⟨⟨_, _, rfl⟩, below_drewN (Below.refl _ _) _⟩
          · have hF : rdGo 2 acc (b :: l.drop (2 + 1)) = some (acc + b.toNat % 128 * 16384, 3) := by
              have : b.toNat % 128 = b.toNat := by omega
              rw [this]; simp [rdGo, hb, hz]
            have HD := Lib.hid (hdec.trans hF)
            have ez : ((b.toNat : Int) != 0) = true := by rw [bne_iff_ne]; omega
            clear hdec hF hz
            go_wp2
            go_quiet (fail)
            go_wp2
            go_ret3
            rw [HD.out]
            exact ⟨rfl, below_drewN (Below.refl _ _) _⟩
        · have hF : rdGo 2 acc (b :: l.drop (2 + 1)) = rdGo 3 (acc + b.toNat % 128 * 16384) (l.drop (2 + 1)) := by simp [rdGo, hb]
          have HD := Lib.hid (hdec.trans hF)
          clear hdec hF
          go_wp2
          refine ⟨⟨3, acc + b.toNat % 128 * 16384, rfl, (by first | rfl | (congr 1; omega)), by omega, by omega, ?_, HD.out⟩, by simp [intOf]; omega⟩
          have e2 : (2 : Nat) ^ (7 * 3) = 2097152 := by decide
          rw [e2]
          omega
      · have hacc' : acc < 2097152 := by simpa using hacc
        have hor : bits .or .u64 (acc : Int) ((b.toNat : Int) % 128 * 2097152) = ((acc + b.toNat % 128 * 2097152 : Nat) : Int) := by
          have e1 : (b.toNat : Int) % 128 = ((b.toNat % 128 : Nat) : Int) := by omega
          rw [e1, u64_orv21 _ _ (by omega) (by omega) (by omega) (by omega) (by omega)]
          omega
        by_cases hb : b.toNat < 128
        · by_cases hz : b.toNat = 0
          · have hF : rdGo 3 acc (b :: l.drop (3 + 1)) = none := by simp [rdGo, hz]
            have HD := Lib.hid (hdec.trans hF)
            have ez : ((b.toNat : Int) != 0) = false := by rw [hz]; rfl
            clear hdec hF hz
            go_wp2
            go_quiet (fail)
            go_wp2
            go_ret3
            rw [HD.out]
            exact ⟨⟨_, _, rfl⟩, below_drewN (Below.refl _ _) _⟩
          · have hF : rdGo 3 acc (b :: l.drop (3 + 1)) = some (acc + b.toNat % 128 * 2097152, 4) := by
              have : b.toNat % 128 = b.toNat := by omega
              rw [this]; simp [rdGo, hb, hz]
            have HD := Lib.hid (hdec.trans hF)
            have ez : ((b.toNat : Int) != 0) = true := by rw [bne_iff_ne]; omega
            clear hdec hF hz
            go_wp2
            go_quiet (fail)
            go_wp2
            go_ret3
            rw [HD.out]
            exact ⟨rfl, below_drewN (Below.refl _ _) _⟩
        · have hF : rdGo 3 acc (b :: l.drop (3 + 1)) = rdGo 4 (acc + b.toNat % 128 * 2097152) (l.drop (3 + 1)) := by simp [rdGo, hb]
          have HD := Lib.hid (hdec.trans hF)
          clear hdec hF
          go_wp2
          refine ⟨⟨4, acc + b.toNat % 128 * 2097152, rfl, (by first | rfl | (congr 1; omega)), by omega, by omega, ?_, HD.out⟩, by simp [intOf]; omega⟩
          have e2 : (2 : Nat) ^ (7 * 4) = 268435456 := by decide
          rw [e2]
          omega
      · have hacc' : acc < 268435456 := by simpa using hacc
        have hor : bits .or .u64 (acc : Int) ((b.toNat : Int) % 128 * 268435456) = ((acc + b.toNat % 128 * 268435456 : Nat) : Int) := by
          have e1 : (b.toNat : Int) % 128 = ((b.toNat % 128 : Nat) : Int) := by omega
          rw [e1, u64_orv28 _ _ (by omega) (by omega) (by omega) (by omega) (by omega)]
          omega
        by_cases hb : b.toNat < 128
        · by_cases hz : b.toNat = 0
          · have hF : rdGo 4 acc (b :: l.drop (4 + 1)) = none := by simp [rdGo, hz]
            have HD := Lib.hid (hdec.trans hF)
            have ez : ((b.toNat : Int) != 0) = false := by rw [hz]; rfl
            clear hdec hF hz
            go_wp2
            go_quiet (fail)
            go_wp2
            go_ret3
            rw [HD.out]
            exact ⟨⟨_, _, rfl⟩, below_drewN (Below.refl _ _) _⟩
          · have hF : rdGo 4 acc (b :: l.drop (4 + 1)) = some (acc + b.toNat % 128 * 268435456, 5) := by
              have : b.toNat % 128 = b.toNat := by omega
              rw [this]; simp [rdGo, hb, hz]
            have HD := Lib.hid (hdec.trans hF)
            have ez : ((b.toNat : Int) != 0) = true := by rw [bne_iff_ne]; omega
            clear hdec hF hz
            go_wp2
            go_quiet (fail)
            go_wp2
            go_ret3
            rw [HD.out]
            exact ⟨rfl, below_drewN (Below.refl _ _) _⟩
        · have hF : rdGo 4 acc (b :: l.drop (4 + 1)) = rdGo 5 (acc + b.toNat % 128 * 268435456) (l.drop (4 + 1)) := by simp [rdGo, hb]
          have HD := Lib.hid (hdec.trans hF)
          clear hdec hF
          go_wp2
          refine ⟨⟨5, acc + b.toNat % 128 * 268435456, rfl, (by first | rfl | (congr 1; omega)), by omega, by omega, ?_, HD.out⟩, by simp [intOf]; omega⟩
          have e2 : (2 : Nat) ^ (7 * 5) = 34359738368 := by decide
          rw [e2]
          omega
      · have hacc' : acc < 34359738368 := by simpa using hacc
        have hor : bits .or .u64 (acc : Int) ((b.toNat : Int) % 128 * 34359738368) = ((acc + b.toNat % 128 * 34359738368 : Nat) : Int) := by
          have e1 : (b.toNat : Int) % 128 = ((b.toNat % 128 : Nat) : Int) := by omega
          rw [e1, u64_orv35 _ _ (by omega) (by omega) (by omega) (by omega) (by omega)]
          omega
        by_cases hb : b.toNat < 128
        · by_cases hz : b.toNat = 0
          · have hF : rdGo 5 acc (b :: l.drop (5 + 1)) = none := by simp [rdGo, hz]
            have HD := Lib.hid (hdec.trans hF)
            have ez : ((b.toNat : Int) != 0) = false := by rw [hz]; rfl
            clear hdec hF hz
            go_wp2
            go_quiet (fail)
            go_wp2
            go_ret3
            rw [HD.out]
            exact ⟨⟨_, _, rfl⟩, below_drewN (Below.refl _ _) _⟩
          · have hF : rdGo 5 acc (b :: l.drop (5 + 1)) = some (acc + b.toNat % 128 * 34359738368, 6) := by
              have : b.toNat % 128 = b.toNat := by omega
              rw [this]; simp [rdGo, hb, hz]
            have HD := Lib.hid (hdec.trans hF)
            have ez : ((b.toNat : Int) != 0) = true := by rw [bne_iff_ne]; omega
            clear hdec hF hz
            go_wp2
            go_quiet (fail)
            go_wp2
            go_ret3
            rw [HD.out]
            exact ⟨rfl, below_drewN (Below.refl _ _) _⟩
        · have hF : rdGo 5 acc (b :: l.drop (5 + 1)) = rdGo 6 (acc + b.toNat % 128 * 34359738368) (l.drop (5 + 1)) := by simp [rdGo, hb]
          have HD := Lib.hid (hdec.trans hF)
          clear hdec hF
          go_wp2
          refine ⟨⟨6, acc + b.toNat % 128 * 34359738368, rfl, (by first | rfl | (congr 1; omega)), by omega, by omega, ?_, HD.out⟩, by simp [intOf]; omega⟩
          have e2 : (2 : Nat) ^ (7 * 6) = 4398046511104 := by decide
          rw [e2]
          omega
      · have hacc' : acc < 4398046511104 := by simpa using hacc
        have hor : bits .or .u64 (acc : Int) ((b.toNat : Int) % 128 * 4398046511104) = ((acc + b.toNat % 128 * 4398046511104 : Nat) : Int) := by
          have e1 : (b.toNat : Int) % 128 = ((b.toNat % 128 : Nat) : Int) := by omega
          rw [e1, u64_orv42 _ _ (by omega) (by omega) (by omega) (by omega) (by omega)]
          omega
        by_cases hb : b.toNat < 128
        · by_cases hz : b.toNat = 0
          · have hF : rdGo 6 acc (b :: l.drop (6 + 1)) = none := by simp [rdGo, hz]
            have HD := Lib.hid (hdec.trans hF)
            have ez : ((b.toNat : Int) != 0) = false := by rw [hz]; rfl
            clear hdec hF hz
            go_wp2
            go_quiet (fail)
            go_wp2
            go_ret3
            rw [HD.out]
            exact ⟨⟨_, _, rfl⟩, below_drewN (Below.refl _ _) _⟩
          · have hF : rdGo 6 acc (b :: l.drop (6 + 1)) = some (acc + b.toNat % 128 * 4398046511104, 7) := by
              have : b.toNat % 128 = b.toNat := by omega
              rw [this]; simp [rdGo, hb, hz]
            have HD := Lib.hid (hdec.trans hF)
            have ez : ((b.toNat : Int) != 0) = true := by rw [bne_iff_ne]; omega
            clear hdec hF hz
            go_wp2
            go_quiet (fail)
            go_wp2
            go_ret3
            rw [HD.out]
            exact ⟨rfl, below_drewN (Below.refl _ _) _⟩
        · have hF : rdGo 6 acc (b :: l.drop (6 + 1)) = rdGo 7 (acc + b.toNat % 128 * 4398046511104) (l.drop (6 + 1)) := by simp [rdGo, hb]
          have HD := Lib.hid (hdec.trans hF)
          clear hdec hF
          go_wp2
          refine ⟨⟨7, acc + b.toNat % 128 * 4398046511104, rfl, (by first | rfl | (congr 1; omega)), by omega, by omega, ?_, HD.out⟩, by simp [intOf]; omega⟩
          have e2 : (2 : Nat) ^ (7 * 7) = 562949953421312 := by decide
          rw [e2]
          omega
      · have hacc' : acc < 562949953421312 := by simpa using hacc
        have hor : bits .or .u64 (acc : Int) ((b.toNat : Int) % 128 * 562949953421312) = ((acc + b.toNat % 128 * 562949953421312 : Nat) : Int) := by
          have e1 : (b.toNat : Int) % 128 = ((b.toNat % 128 : Nat) : Int) := by omega
          rw [e1, u64_orv49 _ _ (by omega) (by omega) (by omega) (by omega) (by omega)]
          omega
        by_cases hb : b.toNat < 128
        · by_cases hz : b.toNat = 0
          · have hF : rdGo 7 acc (b :: l.drop (7 + 1)) = none := by simp [rdGo, hz]
            have HD := Lib.hid (hdec.trans hF)
            have ez : ((b.toNat : Int) != 0) = false := by rw [hz]; rfl
            clear hdec hF hz
            go_wp2
            go_quiet (fail)
            go_wp2
            go_ret3
            rw [HD.out]
            exact ⟨⟨_, _, rfl⟩, below_drewN (Below.refl _ _) _⟩
          · have hF : rdGo 7 acc (b :: l.drop (7 + 1)) = some (acc + b.toNat % 128 * 562949953421312, 8) := by
              have : b.toNat % 128 = b.toNat := by omega
              rw [this]; simp [rdGo, hb, hz]
            have HD := Lib.hid (hdec.trans hF)
            have ez : ((b.toNat : Int) != 0) = true := by rw [bne_iff_ne]; omega
            clear hdec hF hz
            go_wp2
            go_quiet (fail)
            go_wp2
            go_ret3
            rw [HD.out]
            exact ⟨rfl, below_drewN (Below.refl _ _) _⟩
        · have hF : rdGo 7 acc (b :: l.drop (7 + 1)) = rdGo 8 (acc + b.toNat % 128 * 562949953421312) (l.drop (7 + 1)) := by simp [rdGo, hb]
          have HD := Lib.hid (hdec.trans hF)
          clear hdec hF
          go_wp2
          refine ⟨⟨8, acc + b.toNat % 128 * 562949953421312, rfl, (by first | rfl | (congr 1; omega)), by omega, by omega, ?_, HD.out⟩, by simp [intOf]; omega⟩
          have e2 : (2 : Nat) ^ (7 * 8) = 72057594037927936 := by decide
          rw [e2]
          omega
      · have hacc' : acc < 72057594037927936 := by simpa using hacc
        have hor : bits .or .u64 (acc : Int) ((b.toNat : Int) % 128 * 72057594037927936) = ((acc + b.toNat % 128 * 72057594037927936 : Nat) : Int) := by
          have e1 : (b.toNat : Int) % 128 = ((b.toNat % 128 : Nat) : Int) := by omega
          rw [e1, u64_orv56 _ _ (by omega) (by omega) (by omega) (by omega) (by omega)]
          omega
        by_cases hb : b.toNat < 128
        · by_cases hz : b.toNat = 0
          · have hF : rdGo 8 acc (b :: l.drop (8 + 1)) = none := by simp [rdGo, hz]
            have HD := Lib.hid (hdec.trans hF)
            have ez : ((b.toNat : Int) != 0) = false := by rw [hz]; rfl
            clear hdec hF hz
            go_wp2
            go_quiet (fail)
            go_wp2
            go_ret3
            rw [HD.out]
            exact ⟨⟨_, _, rfl⟩, below_drewN (Below.refl _ _) _⟩
          · have hF : rdGo 8 acc (b :: l.drop (8 + 1)) = some (acc + b.toNat % 128 * 72057594037927936, 9) := by
              have : b.toNat % 128 = b.toNat := by omega
              rw [this]; simp [rdGo, hb, hz]
            have HD := Lib.hid (hdec.trans hF)
            have ez : ((b.toNat : Int) != 0) = true := by rw [bne_iff_ne]; omega
            clear hdec hF hz
            go_wp2
            go_quiet (fail)
            go_wp2
            go_ret3
            rw [HD.out]
            exact ⟨rfl, below_drewN (Below.refl _ _) _⟩
        · have hF : rdGo 8 acc (b :: l.drop (8 + 1)) = none := by
            have : 128 ≤ b.toNat := by omega
            simp [rdGo, this]
          have HD := Lib.hid (hdec.trans hF)
          clear hdec hF
          go_wp2
          refine ⟨⟨9, acc + b.toNat % 128 * 72057594037927936, rfl, (by first | rfl | (congr 1; omega)), by omega, by omega, ?_, HD.out.trans (by cases l.drop (8 + 1) <;> simp [rdGo])⟩, by simp [intOf]; omega⟩
          have e2 : (2 : Nat) ^ (7 * 9) = 9223372036854775808 := by decide
          rw [e2]
          omega
      · have hF : rdGo 9 acc (b :: l.drop (9 + 1)) = none := by simp [rdGo]
        have HD := Lib.hid (hdec.trans hF)
        clear hdec hF
        go_wp2
        go_ret3
        rw [HD.out]
        exact ⟨⟨0, 0, rfl⟩, Below.refl _ _⟩
    · have hF : rdGo k acc (l.drop k) = none := by rw [List.drop_eq_nil_of_le (by omega)]; rfl
      have HD := Lib.hid (hdec.trans hF)
      clear hdec hF
      go_wp2
      go_ret3
      rw [HD.out]
      exact ⟨⟨0, 0, rfl⟩, Below.refl _ _⟩
end Go.Proofs.YtnpcmmjdojdmnaaGreatDoor
namespace Go.Proofs.YtnpcmmjdojdmnaaGreatDoor
open Go

/-- Bytes divided by the table alone. -/
def FrOk (b : List UInt8) (cs : List (Int × List UInt8)) : Prop := b = allBytes cs ∧ ∀ x ∈ cs, OkF x.1 x.2
theorem RdOk.fr {b : List UInt8} {cs : List (Int × List UInt8)} (h : RdOk b cs) : FrOk b cs := ⟨h.1, fun x hx => (h.2.2.1 x hx).okF⟩
theorem FrOk.one {b : List UInt8} {cs ds : List (Int × List UInt8)} (h : FrOk b cs) (h' : FrOk b ds) : cs = ds := all_inj h.2 h'.2 (h.1.symm.trans h'.1)

/-- What MaAddress answers. -/
def addrB (cs : List (Int × List UInt8)) : Bool := cs.all (fun x => simpleB x.1 x.2) && cs.dropLast.all (fun x => x.1 != 400) && decide (1 ≤ cs.length ∧ cs.length ≤ 12)

theorem ppath_400 {c : Int} (h : ppath c = true) : c = 400 := by
  rcases known_cases c with rfl | rfl | rfl | rfl | rfl | rfl | rfl | rfl | rfl | rfl | rfl | rfl | rfl | rfl | rfl | rfl | rfl | rfl | rfl | rfl | rfl | rfl | rfl | rfl | rfl | rfl | rfl | rfl | rfl | rfl | rfl | rfl | rfl | rfl | rfl | rfl | rfl | rfl | h'
  all_goals first
    | rfl
    | (exfalso; revert h; decide)
    | skip
  simp [ppath, row_none h'] at h

theorem fr_len {b : List UInt8} {cs : List (Int × List UInt8)} (h : b = allBytes cs) : ∀ x ∈ cs, x.2.length ≤ b.length := by
  subst h
  induction cs with
  | nil => intro x hx; cases hx
  | cons y r ih =>
    intro x hx
    rw [allBytes, List.length_append, compBytes, List.length_append]
    rcases List.mem_cons.1 hx with rfl | hx
    · omega
    · have := ih x hx
      omega

/-- Bytes that are a simple address are such as the reader takes. -/
theorem addr_rd {b : List UInt8} {cs : List (Int × List UInt8)} (h : FrOk b cs) (ha : addrB cs = true) (hl : b.length ≤ 2147483647) : RdOk b cs := by
  simp only [addrB, Bool.and_eq_true, decide_eq_true_eq, List.all_eq_true, bne_iff_ne] at ha
  obtain ⟨⟨h1, h2⟩, h3, _⟩ := ha
  refine ⟨h.1, by intro e; rw [e] at h3; simp at h3, fun x hx => simple_okC (h1 x hx) (Nat.le_trans (fr_len h.1 x hx) hl), fun x hx => ?_⟩
  cases hp : ppath x.1 with
  | false => rfl
  | true => exact absurd (ppath_400 hp) (h2 x hx)

theorem readF_none {todo : List UInt8} (h : readF todo = none) (hne : 0 < todo.length) : ¬ ∃ cs, FrOk todo cs := by
  rintro ⟨cs, h1, h2⟩
  cases cs with
  | nil => rw [h1] at hne; simp [allBytes] at hne
  | cons x r =>
    have := readF_comp (h2 x (by simp)) (allBytes r)
    rw [h1, allBytes, this] at h
    cases h

/-- What has been divided, and what is left. -/
def FrSt (b : List UInt8) (done : List (Int × List UInt8)) (todo : List UInt8) : Prop := b = allBytes done ++ todo ∧ ∀ x ∈ done, OkF x.1 x.2
theorem FrSt.no {b todo : List UInt8} {done : List (Int × List UInt8)} (h : FrSt b done todo) (hno : ¬ ∃ cs, FrOk todo cs) : ¬ ∃ cs, FrOk b cs := by
  rintro ⟨cs, h1, h2⟩
  obtain ⟨r, rfl, hr⟩ := all_split done cs todo h.2 h2 (h.1.symm.trans h1)
  exact hno ⟨r, hr, fun x hx => h2 x (by simp [hx])⟩
theorem FrSt.step {b todo rest : List UInt8} {done : List (Int × List UInt8)} {c : Int} {l : List UInt8} (h : FrSt b done todo) (ho : OkF c l) (ht : todo = compBytes c l ++ rest) : FrSt b (done ++ [(c, l)]) rest := by
  refine ⟨?_, fun x hx => ?_⟩
  · rw [allBytes_append, List.append_assoc, h.1, ht]
    simp [allBytes]
  · rcases List.mem_append.1 hx with hx | hx
    · exact h.2 x hx
    · rw [List.mem_singleton] at hx
      subst hx
      exact ho
theorem FrSt.done {b : List UInt8} {done : List (Int × List UInt8)} (h : FrSt b done []) : FrOk b done := ⟨by rw [h.1, List.append_nil], h.2⟩
end Go.Proofs.YtnpcmmjdojdmnaaGreatDoor
namespace Go.Proofs.YtnpcmmjdojdmnaaGreatDoor
open Go Go.RowKit Go.Sort

set_option maxRecDepth 100000 in
set_option maxHeartbeats 8000000 in
theorem addressN (cs : List (Int × List UInt8)) (hne : cs ≠ []) (hkn : ∀ x ∈ cs, known x.1 = true ∧ x.2.length ≤ 1000000) (hn : cs.length ≤ 1000000) (g o cp : Nat) (w : World) (h : IRow w g o cs) :
    Calls Tryz.prog 39 #[.slice (some ⟨g, o, none⟩) cs.length cp] w fun e w' => ∃ b cap, e = .returned (.slice (some ⟨b, 0, none⟩) cs.length cap) ∧ w.heap.size ≤ b ∧ b < w'.heap.size ∧ cs.length ≤ cap ∧ MAt w' b 0 cs ∧ Below w.heap.size w w' := by
  obtain ⟨i0, hi, hz0, hz1, hz2⟩ := info_parts info50
  have HR := Lib.hid h
  have HK := Lib.hid hkn
  have HNE : Hid (0 < cs.length) := Lib.hid (by cases cs with | nil => exact absurd rfl hne | cons a r => simp)
  clear h hkn hne
  go_enter Tryz.func39, Tryz.ntmps39
  go_wp2
  go_loopw [3, 8] (fun v3 v8 wr => ∃ (k : Nat) (xs : List Value), v8 = .int .i64 k ∧ k ≤ cs.length ∧ wr.ownsRow w.heap.size 50 3 v3 k xs ∧ Hid (XsOf wr cs k xs) ∧ Below w.heap.size w wr) (fun _ v8 _ => cs.length - (intOf v8).toNat)
  case atStart => exact ⟨0, [], rfl, Nat.zero_le _, World.ownsRow_nil _ _ _ _, Lib.hid (fun j h => by omega), Below.refl _ _⟩
  case round =>
    obtain ⟨k, xs, rfl, hk, hown, hxs, hbl⟩ := hrel
    by_cases hlt : k < cs.length
    · obtain ⟨r0, p, cpl, r1, r2⟩ := HR.out k hlt
      have hgg := World.block_lt_of_cell? w _ r0
      have c0 : wr.cell? ⟨g, o + k * 2, none⟩ = some (.int .i64 cs[k].1) := (hbl.cell (p := ⟨g, o + k * 2, none⟩) hgg).trans r0
      have c1 : wr.cell? ⟨g, o + k * 2 + 1, none⟩ = some (.slice p cs[k].2.length cpl) := (hbl.cell (p := ⟨g, o + k * 2 + 1, none⟩) hgg).trans r1
      obtain ⟨hkk, hkl⟩ := HK.out cs[k] (List.getElem_mem _)
      have hB : BytesAt wr p cs[k].2 := r2.below hbl r2.lt
      have HC : Hid (∀ o', Calls Tryz.prog 28 #[.agg #[.int .i64 cs[k].1, .slice p cs[k].2.length cpl]] (wr.alloc o') fun e w' => ∃ q, e = .returned (.agg #[.string ⟨(compBytes cs[k].1 cs[k].2).toArray⟩, .pointer (some ⟨q, 0, none⟩), .int .i64 (headBytes cs[k].1 cs[k].2.length).length]) ∧ ProtoAt (wr.alloc o').heap.size w' q cs[k].1 ∧ Below (wr.alloc o').heap.size (wr.alloc o') w') :=
        Lib.hid fun o' => component cs[k].1 hkk p cs[k].2 cpl _ (hB.below ((Below.refl _ _).alloc (Nat.le_refl _) _) hB.lt) (by omega)
      have HX0 := Lib.hid (And.intro c0 c1)
      clear hB r0 r1 r2 hkk hkl
      go_wp2_with (go_at_call 28; (with_reducible refine (HC.out _).mono ?_); rintro e w2 ⟨q, rfl, hp, hb⟩; refine Hid.out ?_)
      refine Lib.hid ?_
      have hb2 : Below wr.heap.size wr w2 := ((Below.refl _ _).alloc (Nat.le_refl _) _).trans (hb.mono (by simp))
      have hown2 : w2.ownsRow w.heap.size 50 3 u3 k xs := hown.kept (row := none) ⟨hb2.os, hb2.tape, hb2.output, hb2.size, fun k hk _ => hb2.block k hk⟩ (by cases hh : Value.ownBlock _ <;> simp)
      have HXS2 := Lib.hid (hxs.out.below hb2 (Nat.le_refl _))
      have hbl2 : Below w.heap.size w w2 := hbl.trans (hb2.mono hbl.size)
      have hz2' := hbl2.size
      have HBL2 := Lib.hid hbl2
      have HP2 : Hid (ProtoAt (wr.heap.size + 1) w2 q cs[k].1) := Lib.hid (by simpa using hp)
      have HLT := Lib.hid (fun b (h : Value.ownBlock u3 = some b) => (hown.lt b h).2)
      clear hb hb2 hp hown hxs hbl hbl2 c0 c1
      go_wp2_with (at_builtin; refine wpList_append_own _ rfl (.tmp 12) (.tmp 15) 56 rfl w.heap.size 50 i0 (.agg #[.string ⟨#[]⟩, .pointer none, .int .i64 0]) 3 32 Tryz.underlying56 hi hz0 hz1 hz2 rfl (by decide) _ _ _ rfl (hown2.alloc _) ⟨w2.heap.size, 0, none⟩ 1 1 [.string ⟨(compBytes cs[k].1 cs[k].2).toArray⟩, .pointer (some ⟨q, 0, none⟩), .int .i64 (headBytes cs[k].1 cs[k].2.length).length] rfl rfl (cell_three_new _ _ _ _ _) ?c2 ?c3 ?c4 ?c5 ?_)
      case c2 =>
        intro u hu
        simp only [List.mem_cons, List.not_mem_nil, or_false] at hu
        rcases hu with rfl | rfl | rfl <;> rfl
      case c3 => unfold maxLen; omega
      case c4 => omega
      case c5 => simp; omega
      intro v' w3 hown3 hgrow _
      have hb3 : Below w.heap.size w w3 := (HBL2.out.alloc hz2' _).grown hgrow (by simp; omega) (fun k hk => (hown2.lt k hk).1)
      have hP3 : ProtoAt 0 w3 q cs[k].1 := by
        have h2 : ProtoAt (wr.heap.size + 1) (w2.alloc (.cells #[.string ⟨(compBytes cs[k].1 cs[k].2).toArray⟩, .pointer (some ⟨q, 0, none⟩), .int .i64 (headBytes cs[k].1 cs[k].2.length).length] 50)) q cs[k].1 := HP2.out.below ((Below.refl _ _).alloc (Nat.le_refl _) _) (Nat.le_refl _)
        obtain ⟨a1, a2, vc, ⟨gg, g1, g2, rfl, g4⟩, p0, p1, p2, p3, p4, p5⟩ := h2
        refine (ProtoAt.keep (B := wr.heap.size + 1) ⟨a1, a2, _, ⟨gg, g1, g2, rfl, g4⟩, p0, p1, p2, p3, p4, p5⟩ hgrow (fun e => ?_) (fun g' l' cp' hc _ e => ?_)).mono (Nat.zero_le _)
        · have := HLT.out q e; omega
        · have := HLT.out g' e
          rw [p2] at hc
          injection hc with hc; injection hc with hc; injection hc with hc; injection hc with hc
          omega
      have hX3 : XsOf w3 cs k xs := by
        intro j hj hc
        obtain ⟨q', x1, x2, x3, x4⟩ := HXS2.out j hj hc
        refine ⟨q', x1, x2, x3, ?_⟩
        have h4 : ProtoAt 0 (w2.alloc (.cells #[.string ⟨(compBytes cs[k].1 cs[k].2).toArray⟩, .pointer (some ⟨q, 0, none⟩), .int .i64 (headBytes cs[k].1 cs[k].2.length).length] 50)) q' cs[j].1 := x4.below ((Below.refl _ _).alloc (Nat.le_refl _) _) (Nat.le_refl _)
        cases hrow : Value.ownBlock u3 with
        | none => rw [hrow] at hgrow; exact h4.keep hgrow (by simp) (by simp)
        | some b =>
          rw [hrow] at hgrow
          obtain ⟨q0, y1, y2, _, _⟩ := HXS2.out 0 (by omega) (by omega)
          have hcells := (hown2.alloc (.cells #[.string ⟨(compBytes cs[k].1 cs[k].2).toArray⟩, .pointer (some ⟨q, 0, none⟩), .int .i64 (headBytes cs[k].1 cs[k].2.length).length] 50)).cells hrow
          have z0 := hcells 0 _ y1
          have z1 := hcells 1 _ y2
          rw [Addr.add_lit] at z0 z1
          exact h4.keepRow hgrow z0 z1
      have hX4 := hX3.snoc hown2.1 hlt hP3
      have HO3 := Lib.hid (And.intro hown3 (And.intro hX4 hb3))
      clear hown3 hX3 hX4 hb3 hP3 hgrow hown2
      go_wp2
      obtain ⟨hown3, hX4, hb3⟩ := HO3.out
      exact ⟨⟨k + 1, _, by go_num, by omega, hown3, Lib.hid hX4, hb3⟩, by simp [intOf]; omega⟩
    · have hke : k = cs.length := by omega
      subst hke
      have HO := Lib.hid hown
      rcases hown.2 with ⟨_, h⟩ | ⟨b, cap, cur, hv, hbase, hheap, hle, hmax, hcur, htake⟩
      · have := HNE.out; omega
      subst hv
      have HA : Hid (MAt wr b 0 cs) := Lib.hid fun j hj => by
        obtain ⟨q, x1, x2, x3, x4⟩ := hxs.out j hj hj
        exact ⟨q, by rw [Nat.zero_add, HO.out.cellAt _ (by omega)]; exact x1, by rw [Nat.zero_add, HO.out.cellAt _ (by omega)]; exact x2, by rw [Nat.zero_add, HO.out.cellAt _ (by omega)]; exact x3, x4⟩
      have hbl' := (hown.lt b rfl).2
      clear hown hheap htake hcur
      go_wp2
      go_ret
      exact ⟨b, cap, rfl, hbase, hbl', hle, HA.out, hbl⟩

/-- The bytes so far, in a block with room for N. -/
def RoomN (w : World) (g N : Nat) (l : List UInt8) : Prop :=
  At w g 0 l ∧ (∀ j, j < N → (w.cell? ⟨g, j, none⟩).isSome = true) ∧ (∀ j, w.frozen? ⟨g, j, none⟩ = false) ∧ g < w.heap.size
theorem RoomN.below {B g N : Nat} {w w' : World} {l : List UInt8} (h : RoomN w g N l) (hb : Below B w w') (hB : g < B) : RoomN w' g N l :=
  ⟨h.1.below hb hB, fun j hj => by rw [hb.cell (p := ⟨g, j, none⟩) hB]; exact h.2.1 j hj, fun j => (hb.frozen (p := ⟨g, j, none⟩) hB).trans (h.2.2.1 j), Nat.lt_of_lt_of_le h.2.2.2 hb.size⟩
theorem RoomN.append {w : World} {g N : Nat} {l m : List UInt8} (h : RoomN w g N l) (hr : l.length + m.length ≤ N) : RoomN (w.setCells g l.length (byteCells ⟨m.toArray⟩)) g N (l ++ m) := by
  have hl : (byteCells ⟨m.toArray⟩).length = m.length := by rw [byteCells_length]; show m.toArray.size = _; simp
  refine ⟨fun j hj => ?_, fun j hj => World.isSome_setCells g _ _ w _ (h.2.1 j hj), fun j => (World.frozen?_setCells g _ _ w _).trans (h.2.2.1 j), ?_⟩
  · by_cases hlt : j < l.length
    · rw [World.cell?_setCells_out g _ _ w _ (fun _ _ => Or.inl (by simp; omega)), h.1 j hlt, List.getElem_append_left hlt]
    · rw [List.length_append] at hj
      have := World.cell?_setCells_in g (byteCells ⟨m.toArray⟩) l.length w (fun i hi => h.2.1 _ (by omega)) (j - l.length) (by omega)
      rw [show l.length + (j - l.length) = 0 + j by omega] at this
      rw [this, List.getElem_append_right (by omega)]
      simp [byteCells]
  · exact Nat.lt_of_lt_of_le h.2.2.2 (Lib.below_setCells_w (B := g) (Nat.le_refl _) _ _ w).size

set_option maxRecDepth 100000 in
set_option maxHeartbeats 8000000 in
theorem addrBytesN (cs : List (Int × List UInt8)) (gs cap : Nat) (w : World) (hm : MAt w gs 0 cs) (hgs : gs < w.heap.size) (hlim : (allBytes cs).length ≤ 1000000) (hcl : cs.length ≤ 1000000) :
    Calls Tryz.prog 40 #[.slice (some ⟨gs, 0, none⟩) cs.length cap] w fun e w' => ∃ g cp, e = .returned (.slice (some ⟨g, 0, none⟩) (allBytes cs).length cp) ∧ At w' g 0 (allBytes cs) ∧ Below w.heap.size w w' := by
  obtain ⟨i0, hi, hz0, hz1, hz2⟩ := info_parts info5
  have HC : Hid (∀ k (hk : k < cs.length), ∃ pp z, w.cell? ⟨gs, k * 3, none⟩ = some (.string ⟨(compBytes cs[k].1 cs[k].2).toArray⟩) ∧ w.cell? ⟨gs, k * 3 + 1, none⟩ = some (.pointer (some ⟨pp, 0, none⟩)) ∧ w.cell? ⟨gs, k * 3 + 2, none⟩ = some (.int .i64 (z : Int))) := Lib.hid fun k hk => by
    obtain ⟨q, h1, h2, h3, h4⟩ := hm k hk
    rw [Nat.zero_add] at h1 h2 h3
    exact ⟨q, _, h1, h2, h3⟩
  have HL : Hid (∀ k, (allBytes (cs.take k)).length ≤ (allBytes cs).length) := Lib.hid fun k => by
    have := congrArg (fun z => (allBytes z).length) (List.take_append_drop k cs)
    simp only [allBytes_append, List.length_append] at this
    omega
  clear hm
  go_enter Tryz.func40, Tryz.ntmps40
  go_wp2
  go_loopw [3, 12] (fun v3 v12 wr => ∃ k : Nat, v12 = .int .i64 k ∧ k ≤ cs.length ∧ v3 = .int .i64 (allBytes (cs.take k)).length ∧ Below w.heap.size w wr) (fun _ v12 _ => cs.length - (intOf v12).toNat)
  case atStart => exact ⟨0, rfl, Nat.zero_le _, rfl, Below.refl _ _⟩
  case round =>
    obtain ⟨k, rfl, hk, rfl, hbl⟩ := hrel
    by_cases hlt : k < cs.length
    · obtain ⟨pp, z, c0, c1, c2⟩ := HC.out k hlt
      have d0 : wr.cell? ⟨gs, k * 3, none⟩ = _ := (hbl.cell (p := ⟨gs, k * 3, none⟩) hgs).trans c0
      have d1 : wr.cell? ⟨gs, k * 3 + 1, none⟩ = _ := (hbl.cell (p := ⟨gs, k * 3 + 1, none⟩) hgs).trans c1
      have d2 : wr.cell? ⟨gs, k * 3 + 2, none⟩ = _ := (hbl.cell (p := ⟨gs, k * 3 + 2, none⟩) hgs).trans c2
      clear c0 c1 c2
      go_wp2
      have hs := congrArg List.length (take_snoc cs k hlt)
      rw [List.length_append] at hs
      have hle := HL.out (k + 1)
      refine ⟨⟨k + 1, by go_num, by omega, ?_, hbl.alloc hbl.size _⟩, by simp [intOf]; omega⟩
      rw [hs, IntWalk.wrap64_in _ (by omega)]; simp
    · have hk2 : k = cs.length := by omega
      subst hk2
      rw [List.take_length]
      obtain ⟨M, hM⟩ : ∃ M, M = (allBytes cs).length := ⟨_, rfl⟩
      have HM := Lib.hid hM
      rw [← hM] at hlim ⊢
      by_cases hsm : M < 128
      · have q0 : decide ((M : Int) < 128) = true := by simp; omega
        clear hk hlt hM
        have hR : RoomN (wr.alloc (.cells Tryz.zeroCells91 91)) wr.heap.size 128 [] := by
          refine ⟨fun j hj => by simp at hj, fun j hj => ?_, fun j => by simp [go_sem], by simp⟩
          rw [World.cell?_alloc_new]
          have h128 : Tryz.zeroCells91.size = 128 := by kernel_rfl
          rw [Array.getElem?_eq_getElem (by omega)]; rfl
        have HR := Lib.hid hR; clear hR
        have hbl2 : Below w.heap.size w (wr.alloc (.cells Tryz.zeroCells91 91)) := hbl.alloc hbl.size _
        have hgw : w.heap.size ≤ wr.heap.size := hbl.size
        clear hbl
        go_wp2_with fail
        generalize hG : wr.heap.size = g at *
        generalize wr.alloc (.cells Tryz.zeroCells91 91) = w1 at *
        have hroom : M ≤ 128 := by omega
        go_loopw [6, 29] (fun v6 v29 wr => ∃ k : Nat, v29 = .int .i64 k ∧ k ≤ cs.length ∧ v6 = .slice (some ⟨g, 0, none⟩) (allBytes (cs.take k)).length 128 ∧ Hid (RoomN wr g 128 (allBytes (cs.take k))) ∧ Below w.heap.size w wr) (fun _ v29 _ => cs.length - (intOf v29).toNat)
        case atStart => exact ⟨0, rfl, Nat.zero_le _, rfl, HR, hbl2⟩
        case round =>
          obtain ⟨k, rfl, hk, rfl, hro, hbq⟩ := hrel
          by_cases hlt : k < cs.length
          · obtain ⟨pp, z, c0, c1, c2⟩ := HC.out k hlt
            have d0 : wr.cell? ⟨gs, k * 3, none⟩ = _ := (hbq.cell (p := ⟨gs, k * 3, none⟩) hgs).trans c0
            have d1 : wr.cell? ⟨gs, k * 3 + 1, none⟩ = _ := (hbq.cell (p := ⟨gs, k * 3 + 1, none⟩) hgs).trans c1
            have d2 : wr.cell? ⟨gs, k * 3 + 2, none⟩ = _ := (hbq.cell (p := ⟨gs, k * 3 + 2, none⟩) hgs).trans c2
            have hs := congrArg List.length (take_snoc cs k hlt)
            rw [List.length_append] at hs
            have hle := HL.out (k + 1)
            have hro2 : ∀ ob, RoomN (wr.alloc ob) g 128 (allBytes (cs.take k)) := fun ob => hro.out.below ((Below.refl _ _).alloc (Nat.le_refl _) _) hro.out.2.2.2
            have HRO := Lib.hid hro2; clear hro2
            have HSZ := Lib.hid (show (⟨(compBytes cs[k].1 cs[k].2).toArray⟩ : ByteArray).size = (compBytes cs[k].1 cs[k].2).length from by show (compBytes cs[k].1 cs[k].2).toArray.size = _; simp)
            have HS := Lib.hid (And.intro hs hle)
            clear c0 c1 c2 hs hle
            go_wp2_with (at_builtin; refine wpList_append_text _ rfl (.tmp 33) (.tmp 35) rfl g (allBytes (cs.take k)).length 128 ⟨(compBytes cs[k].1 cs[k].2).toArray⟩ rfl rfl ?e1 ?e2 ?e3 ?_)
            case e1 =>
              have h1 := HSZ.out
              have h2 := HS.out
              have h3 := HM.out
              rw [h1]; omega
            case e2 => exact (HRO.out _).2.1
            case e3 => exact (HRO.out _).2.2.1
            have hnew := (HRO.out (.cells #[.string ⟨(compBytes cs[k].1 cs[k].2).toArray⟩, .pointer (some ⟨pp, 0, none⟩), .int .i64 z] 50)).append (m := compBytes cs[k].1 cs[k].2) (by have := HS.out; have := HM.out; omega)
            rw [← take_snoc cs k hlt] at hnew
            have hbn : Below w.heap.size w ((wr.alloc (.cells #[.string ⟨(compBytes cs[k].1 cs[k].2).toArray⟩, .pointer (some ⟨pp, 0, none⟩), .int .i64 z] 50)).setCells g (allBytes (cs.take k)).length (byteCells ⟨(compBytes cs[k].1 cs[k].2).toArray⟩)) :=
              (hbq.alloc hbq.size _).trans (Lib.below_setCells_w hgw _ _ _)
            have HN := Lib.hid hnew; clear hnew
            exact ⟨⟨k + 1, by go_num, by omega, by rw [HS.out.1], HN, hbn⟩, by simp [intOf]; omega⟩
          · have hk2 : k = cs.length := by omega
            subst hk2
            rw [List.take_length] at hro ⊢
            clear hk hlt
            go_wp2
            go_ret
            exact ⟨g, 128, rfl, hro.out.1, hbq⟩
      · have q0 : decide ((M : Int) < 128) = false := by simp; omega
        clear hk hlt hM
        go_wp2_with (at_make; refine wpList_make_own _ rfl (.const (.int .i64 0)) (.tmp 25) 22 rfl w.heap.size 5 i0 (.int .u8 0) 1 Tryz.underlying22 hi hz0 hz1 .i64 .i64 _ M rfl rfl rfl ?c1 ?c2 hbl.size ?_)
        case c1 => rw [hz2]; omega
        case c2 => unfold maxLen; omega
        intro w1 hown1 hgrow1
        have hb1 : Below wr.heap.size wr w1 := ⟨hgrow1.os, hgrow1.tape, hgrow1.output, hgrow1.size, fun k hk => hgrow1.block k hk (by simp)⟩
        have hR : RoomN w1 wr.heap.size M [] := by
          refine ⟨fun j hj => by simp at hj, fun j hj => ?_, fun j => hown1.frozenAt j, (hown1.lt _ rfl).2⟩
          rcases hown1.2 with ⟨h, _⟩ | ⟨b, cap, cur, hv, hbase, hheap, hle, hmax, hcur, htake⟩
          · simp at h
          · simp only [Value.slice.injEq, Option.some.injEq, Addr.mk.injEq, and_true, true_and] at hv
            obtain ⟨rfl, rfl⟩ := hv
            simp only [World.cell?, hheap]
            rw [Array.getElem?_eq_getElem (by omega)]; rfl
        have HR := Lib.hid hR; clear hR
        have hbl2 : Below w.heap.size w w1 := hbl.trans (hb1.mono hbl.size)
        have hgw : w.heap.size ≤ wr.heap.size := hbl.size
        clear hbl hown1 hgrow1 hb1
        go_wp2_with fail
        generalize hG : wr.heap.size = g at *
        have hroom : M ≤ M := Nat.le_refl _
        go_loopw [6, 29] (fun v6 v29 wr => ∃ k : Nat, v29 = .int .i64 k ∧ k ≤ cs.length ∧ v6 = .slice (some ⟨g, 0, none⟩) (allBytes (cs.take k)).length M ∧ Hid (RoomN wr g M (allBytes (cs.take k))) ∧ Below w.heap.size w wr) (fun _ v29 _ => cs.length - (intOf v29).toNat)
        case atStart => exact ⟨0, rfl, Nat.zero_le _, rfl, HR, hbl2⟩
        case round =>
          obtain ⟨k, rfl, hk, rfl, hro, hbq⟩ := hrel
          by_cases hlt : k < cs.length
          · obtain ⟨pp, z, c0, c1, c2⟩ := HC.out k hlt
            have d0 : wr.cell? ⟨gs, k * 3, none⟩ = _ := (hbq.cell (p := ⟨gs, k * 3, none⟩) hgs).trans c0
            have d1 : wr.cell? ⟨gs, k * 3 + 1, none⟩ = _ := (hbq.cell (p := ⟨gs, k * 3 + 1, none⟩) hgs).trans c1
            have d2 : wr.cell? ⟨gs, k * 3 + 2, none⟩ = _ := (hbq.cell (p := ⟨gs, k * 3 + 2, none⟩) hgs).trans c2
            have hs := congrArg List.length (take_snoc cs k hlt)
            rw [List.length_append] at hs
            have hle := HL.out (k + 1)
            have hro2 : ∀ ob, RoomN (wr.alloc ob) g M (allBytes (cs.take k)) := fun ob => hro.out.below ((Below.refl _ _).alloc (Nat.le_refl _) _) hro.out.2.2.2
            have HRO := Lib.hid hro2; clear hro2
            have HSZ := Lib.hid (show (⟨(compBytes cs[k].1 cs[k].2).toArray⟩ : ByteArray).size = (compBytes cs[k].1 cs[k].2).length from by show (compBytes cs[k].1 cs[k].2).toArray.size = _; simp)
            have HS := Lib.hid (And.intro hs hle)
            clear c0 c1 c2 hs hle
            go_wp2_with (at_builtin; refine wpList_append_text _ rfl (.tmp 33) (.tmp 35) rfl g (allBytes (cs.take k)).length M ⟨(compBytes cs[k].1 cs[k].2).toArray⟩ rfl rfl ?e1 ?e2 ?e3 ?_)
            case e1 =>
              have h1 := HSZ.out
              have h2 := HS.out
              have h3 := HM.out
              rw [h1]; omega
            case e2 => exact (HRO.out _).2.1
            case e3 => exact (HRO.out _).2.2.1
            have hnew := (HRO.out (.cells #[.string ⟨(compBytes cs[k].1 cs[k].2).toArray⟩, .pointer (some ⟨pp, 0, none⟩), .int .i64 z] 50)).append (m := compBytes cs[k].1 cs[k].2) (by have := HS.out; have := HM.out; omega)
            rw [← take_snoc cs k hlt] at hnew
            have hbn : Below w.heap.size w ((wr.alloc (.cells #[.string ⟨(compBytes cs[k].1 cs[k].2).toArray⟩, .pointer (some ⟨pp, 0, none⟩), .int .i64 z] 50)).setCells g (allBytes (cs.take k)).length (byteCells ⟨(compBytes cs[k].1 cs[k].2).toArray⟩)) :=
              (hbq.alloc hbq.size _).trans (Lib.below_setCells_w hgw _ _ _)
            have HN := Lib.hid hnew; clear hnew
            exact ⟨⟨k + 1, by go_num, by omega, by rw [HS.out.1], HN, hbn⟩, by simp [intOf]; omega⟩
          · have hk2 : k = cs.length := by omega
            subst hk2
            rw [List.take_length] at hro ⊢
            clear hk hlt
            go_wp2
            go_ret
            exact ⟨g, M, rfl, hro.out.1, hbq⟩
end Go.Proofs.YtnpcmmjdojdmnaaGreatDoor
namespace Go.Proofs.YtnpcmmjdojdmnaaGreatDoor
open Go Go.RowKit Go.Sort

theorem addr_of {cs : List (Int × List UInt8)} (h : ∀ k (hk : k < cs.length), simpleB cs[k].1 cs[k].2 = true ∧ (cs[k].1 = 400 → k = cs.length - 1)) (h1 : 1 ≤ cs.length) (h2 : cs.length ≤ 12) : addrB cs = true := by
  simp only [addrB, Bool.and_eq_true, decide_eq_true_eq, List.all_eq_true, bne_iff_ne]
  refine ⟨⟨fun x hx => ?_, fun x hx => ?_⟩, h1, h2⟩
  · obtain ⟨k, hk, rfl⟩ := List.getElem_of_mem hx
    exact (h k hk).1
  · obtain ⟨k, hk, rfl⟩ := List.getElem_of_mem hx
    rw [List.length_dropLast] at hk
    rw [List.getElem_dropLast]
    intro e
    have := (h k (by omega)).2 e
    omega

set_option maxRecDepth 100000 in
set_option maxHeartbeats 8000000 in
theorem addr17 (B : Nat) (cs : List (Int × List UInt8)) (hlim : ∀ x ∈ cs, x.2.length ≤ 1000000) (hcl : cs.length ≤ 1000000) (bb cap : Nat) (w : World) (hr : IRowN B w bb cs) :
    Calls Tryz.prog 17 #[.slice (some ⟨bb, 0, none⟩) cs.length cap] w fun e w' => ∃ b, e = .returned (.bool b) ∧ (b = true → addrB cs = true) ∧ Below w.heap.size w w' := by
  have HR := Lib.hid (And.intro hr hlim)
  clear hr hlim
  obtain ⟨n, hn⟩ : ∃ n, n = cs.length := ⟨_, rfl⟩
  have HN := Lib.hid hn
  rw [← hn] at hcl ⊢
  clear hn
  go_enter Tryz.func17, Tryz.ntmps17
  go_wp2
  go_loopw [7] (fun v7 wr => ∃ k : Nat, v7 = .int .i64 k ∧ k ≤ n ∧ Hid (∀ j (hj : j < cs.length), j < k → simpleB cs[j].1 cs[j].2 = true ∧ (cs[j].1 = 400 → j = cs.length - 1)) ∧ Below w.heap.size w wr) (fun v7 _ => n - (intOf v7).toNat)
  case atStart => exact ⟨0, rfl, Nat.zero_le _, Lib.hid fun j _ h => absurd h (by omega), Below.refl _ _⟩
  case round =>
    obtain ⟨k, rfl, hk, hall, hbl⟩ := hrel
    by_cases hlt : k < n
    · have hkc : k < cs.length := by have := HN.out; omega
      obtain ⟨r0, g, cp, r1, _, r3, _, r5⟩ := HR.out.1 k hkc
      have hll := HR.out.2 cs[k] (List.getElem_mem hkc)
      obtain ⟨c, hc⟩ : ∃ c, c = cs[k].1 := ⟨_, rfl⟩
      obtain ⟨l, hl⟩ : ∃ l, l = cs[k].2 := ⟨_, rfl⟩
      rw [← hc] at r0
      rw [← hl] at r1 r5 hll
      have hbb := World.block_lt_of_cell? w _ r0
      have c0 : wr.cell? ⟨bb, k * 2, none⟩ = some (.int .i64 c) := (hbl.cell (p := ⟨bb, k * 2, none⟩) hbb).trans r0
      have c1 : wr.cell? ⟨bb, k * 2 + 1, none⟩ = some (.slice (some ⟨g, 0, none⟩) l.length cp) := (hbl.cell (p := ⟨bb, k * 2 + 1, none⟩) hbb).trans r1
      have hat : At wr g 0 l := r5.below hbl r3
      have hgr : g < wr.heap.size := Nat.lt_of_lt_of_le r3 hbl.size
      have HS : Hid (∀ ob, Calls Tryz.prog 8 #[.agg #[.int .i64 c, .slice (some ⟨g, 0, none⟩) l.length cp]] (wr.alloc ob) fun e w' => e = .returned (.bool (simpleB c l)) ∧ Below (wr.alloc ob).heap.size (wr.alloc ob) w') := Lib.hid fun ob => maSimple c (some ⟨g, 0, none⟩) l cp (wr.alloc ob) (hat.below ((Below.refl _ _).alloc (Nat.le_refl _) _) hgr).bytes (by omega)
      have HCL := Lib.hid (And.intro hc hl)
      clear r0 r1 r3 r5 hat hc hl hll
      cases hs : simpleB c l with
      | false =>
        rw [hs] at HS
        go_wp2_with (go_at_call 8; (with_reducible refine (HS.out _).mono ?_); rintro e w2 ⟨rfl, hb2⟩)
        go_ret
        exact ⟨false, rfl, (fun h => by cases h), hbl.trans (((Below.refl _ _).alloc (Nat.le_refl _) _).trans (hb2.mono (by simp)) |>.mono hbl.size)⟩
      | true =>
        rw [hs] at HS
        have hstep : Hid ((c = 400 → k = n - 1) → ∀ j (hj : j < cs.length), j < k + 1 → simpleB cs[j].1 cs[j].2 = true ∧ (cs[j].1 = 400 → j = cs.length - 1)) := Lib.hid fun h4 j hj hjk => by
          by_cases hjk2 : j < k
          · exact hall.out j hj hjk2
          · obtain rfl : j = k := by omega
            have e1 := HCL.out.1
            have e2 := HCL.out.2
            rw [← e1, ← e2]
            exact ⟨hs, fun h => by have := h4 h; have := HN.out; omega⟩
        clear hs hall
        by_cases h4 : c = 400
        · have q4 : (c == 400) = true := by rw [beq_iff_eq]; exact h4
          have H4 := Lib.hid h4
          clear h4
          by_cases hlast : k < n - 1
          · have q5 : decide ((k : Int) < (n : Int) - 1) = true := by simp; omega
            go_wp2_with (go_at_call 8; (with_reducible refine (HS.out _).mono ?_); rintro e w2 ⟨rfl, hb2⟩; obtain ⟨hbc, hbf⟩ := bcell hb2)
            go_ret
            exact ⟨false, rfl, (fun h => by cases h), hbl.trans (((Below.refl _ _).alloc (Nat.le_refl _) _).trans (hb2.mono (by simp)) |>.mono hbl.size)⟩
          · have q5 : decide ((k : Int) < (n : Int) - 1) = false := by simp; omega
            have hke : k = n - 1 := by omega
            have HKE := Lib.hid hke
            clear hke
            go_wp2_with (go_at_call 8; (with_reducible refine (HS.out _).mono ?_); rintro e w2 ⟨rfl, hb2⟩; obtain ⟨hbc, hbf⟩ := bcell hb2)
            exact ⟨⟨k + 1, by go_num, by omega, Lib.hid (hstep.out fun _ => HKE.out), hbl.trans (((Below.refl _ _).alloc (Nat.le_refl _) _).trans (hb2.mono (by simp)) |>.mono hbl.size)⟩, by simp [intOf]; omega⟩
        · have q4 : (c == 400) = false := by rw [beq_eq_false_iff_ne]; exact h4
          have H4 := Lib.hid h4
          clear h4
          go_wp2_with (go_at_call 8; (with_reducible refine (HS.out _).mono ?_); rintro e w2 ⟨rfl, hb2⟩; obtain ⟨hbc, hbf⟩ := bcell hb2)
          exact ⟨⟨k + 1, by go_num, by omega, Lib.hid (hstep.out fun h => absurd h H4.out), hbl.trans (((Below.refl _ _).alloc (Nat.le_refl _) _).trans (hb2.mono (by simp)) |>.mono hbl.size)⟩, by simp [intOf]; omega⟩
    · have hkn : k = n := by omega
      subst hkn
      have HALL : Hid (1 ≤ k → k ≤ 12 → addrB cs = true) := Lib.hid fun h1 h2 => by
        have := HN.out
        exact addr_of (fun j hj => hall.out j hj (by omega)) (by omega) (by omega)
      clear hall
      by_cases h1 : 1 ≤ k
      · by_cases h12 : k ≤ 12
        · have q1 : decide ((1 : Int) ≤ (k : Int)) = true := by simp; omega
          have q2 : decide ((k : Int) ≤ 12) = true := by simp; omega
          go_wp2
          go_ret
          exact ⟨true, rfl, fun _ => HALL.out h1 h12, hbl⟩
        · have q1 : decide ((1 : Int) ≤ (k : Int)) = true := by simp; omega
          have q2 : decide ((k : Int) ≤ 12) = false := by simp; omega
          go_wp2
          go_ret
          exact ⟨false, rfl, (fun h => by cases h), hbl⟩
      · have q1 : decide ((1 : Int) ≤ (k : Int)) = false := by simp; omega
        go_wp2
        go_ret
        exact ⟨false, rfl, (fun h => by cases h), hbl⟩
end Go.Proofs.YtnpcmmjdojdmnaaGreatDoor
namespace Go.Proofs.YtnpcmmjdojdmnaaGreatDoor
open Go Go.RowKit Go.Sort

set_option maxRecDepth 100000 in
set_option maxHeartbeats 8000000 in
theorem alike18 (B1 B2 : Nat) (cs : List (Int × List UInt8)) (hcl : cs.length ≤ 1000000) (b1 cap1 b2 cap2 : Nat) (w : World) (h1 : IRowN B1 w b1 cs) (h2 : IRowN B2 w b2 cs) :
    Calls Tryz.prog 18 #[.slice (some ⟨b1, 0, none⟩) cs.length cap1, .slice (some ⟨b2, 0, none⟩) cs.length cap2] w fun e w' => e = .returned (.bool true) ∧ Below w.heap.size w w' := by
  have HR := Lib.hid (And.intro h1 h2)
  have hm : Tryz.prog.follows .mixedOrders = true := by kernel_rfl
  clear h1 h2
  obtain ⟨n, hn⟩ : ∃ n, n = cs.length := ⟨_, rfl⟩
  have HN := Lib.hid hn
  rw [← hn] at hcl ⊢
  clear hn
  go_enter Tryz.func18, Tryz.ntmps18
  go_wp2
  go_loopw [13] (fun v13 wr => ∃ k : Nat, v13 = .int .i64 k ∧ k ≤ n ∧ Below w.heap.size w wr) (fun v13 _ => n - (intOf v13).toNat)
  case atStart => exact ⟨0, rfl, Nat.zero_le _, Below.refl _ _⟩
  case round =>
    obtain ⟨k, rfl, hk, hbl⟩ := hrel
    by_cases hlt : k < n
    · have hkc : k < cs.length := by have := HN.out; omega
      obtain ⟨r0, g, cp, r1, _, r3, _, r5⟩ := HR.out.1 k hkc
      obtain ⟨s0, g', cp', s1, _, s3, _, s5⟩ := HR.out.2 k hkc
      generalize cs[k].1 = c at *
      generalize cs[k].2 = l at *
      have hb1 := World.block_lt_of_cell? w _ r0
      have hb2 := World.block_lt_of_cell? w _ s0
      have h5 : wr.cell? ⟨b1, k * 2, none⟩ = some (.int .i64 c) := (hbl.cell (p := ⟨b1, k * 2, none⟩) hb1).trans r0
      have h6 : wr.cell? ⟨b1, k * 2 + 1, none⟩ = some (.slice (some ⟨g, 0, none⟩) l.length cp) := (hbl.cell (p := ⟨b1, k * 2 + 1, none⟩) hb1).trans r1
      have k5 : wr.cell? ⟨b2, k * 2, none⟩ = some (.int .i64 c) := (hbl.cell (p := ⟨b2, k * 2, none⟩) hb2).trans s0
      have k6 : wr.cell? ⟨b2, k * 2 + 1, none⟩ = some (.slice (some ⟨g', 0, none⟩) l.length cp') := (hbl.cell (p := ⟨b2, k * 2 + 1, none⟩) hb2).trans s1
      have h10 : At wr g 0 l := r5.below hbl r3
      have k10 : At wr g' 0 l := s5.below hbl s3
      have h8 : g < wr.heap.size := Nat.lt_of_lt_of_le r3 hbl.size
      have k8 : g' < wr.heap.size := Nat.lt_of_lt_of_le s3 hbl.size
      have c0 := fun d os => cell_regrown h5 d os
      have c1 := fun d os => cell_regrown h6 d os
      have d0 := fun d os => cell_regrown k5 d os
      have d1 := fun d os => cell_regrown k6 d os
      have HS : Hid (∀ d os, Calls Tryz.prog 11 #[.agg #[.int .i64 c, .slice (some ⟨g, 0, none⟩) l.length cp], .agg #[.int .i64 c, .slice (some ⟨g', 0, none⟩) l.length cp']] (grow (redrawn wr d) os) fun e w' => e = .returned (.bool true) ∧ Below (grow (redrawn wr d) os).heap.size (grow (redrawn wr d) os) w') := Lib.hid fun d os => by
        have hb := below_regrown wr d os
        have := maSame c c (some ⟨g, 0, none⟩) (some ⟨g', 0, none⟩) l l cp cp' (grow (redrawn wr d) os) (h10.below hb h8).bytes (k10.below hb k8).bytes
        simpa using this
      clear r0 r1 r3 r5 s0 s1 s3 s5 h5 h6 k5 k6 h10 k10
      go_wp2
      refine wp_region_quiet_below hm (by kernel_rfl) ?_
      repeat (quiet_step ((go_at_call 11; with_reducible exact Calls.regrown_of (HS.out _ _))))
      refine wpQuiet_nil ?_
      intro _ hw'
      obtain ⟨⟨dq, osq⟩, hw''⟩ := hw'
      subst hw''
      go_wp2
      exact ⟨⟨k + 1, by go_num, by omega, hbl.trans ((below_regrown wr dq osq).mono hbl.size)⟩, by simp [intOf]; omega⟩
    · go_wp2
      go_ret
      exact ⟨rfl, hbl⟩

theorem IRowN.irow {B : Nat} {w : World} {b : Nat} {cs : List (Int × List UInt8)} (h : IRowN B w b cs) : IRow w b 0 cs := fun k hk => by
  obtain ⟨h0, g, cp, h1, _, _, _, h5⟩ := h k hk
  exact ⟨by rw [Nat.zero_add]; exact h0, some ⟨g, 0, none⟩, cp, by rw [Nat.zero_add]; exact h1, h5.bytes⟩

set_option maxRecDepth 100000 in
set_option maxHeartbeats 8000000 in
theorem bytesOf19 (B : Nat) (cs : List (Int × List UInt8)) (hne : cs ≠ []) (hkn : ∀ x ∈ cs, known x.1 = true ∧ x.2.length ≤ 1000000) (hcl : cs.length ≤ 1000000) (hal : (allBytes cs).length ≤ 1000000) (b cap : Nat) (w : World) (h : IRowN B w b cs) :
    Calls Tryz.prog 19 #[.slice (some ⟨b, 0, none⟩) cs.length cap] w fun e w' => ∃ g cp, e = .returned (.slice (some ⟨g, 0, none⟩) (allBytes cs).length cp) ∧ At w' g 0 (allBytes cs) ∧ Below w.heap.size w w' := by
  have H39 := Lib.hid (addressN cs hne hkn hcl b 0 cap w h.irow)
  have H40 : Hid (∀ (b2 cap2 : Nat) (w2 : World), Below w.heap.size w w2 → b2 < w2.heap.size → MAt w2 b2 0 cs → Calls Tryz.prog 40 #[.slice (some ⟨b2, 0, none⟩) cs.length cap2] w2 fun e w' => ∃ g cp, e = .returned (.slice (some ⟨g, 0, none⟩) (allBytes cs).length cp) ∧ At w' g 0 (allBytes cs) ∧ Below w.heap.size w w') := Lib.hid fun b2 cap2 w2 hb hlt hm => by
    refine (addrBytesN cs b2 cap2 w2 hm hlt hal hcl).mono ?_
    rintro e w' ⟨g, cp, rfl, hat, hb2⟩
    exact ⟨g, cp, rfl, hat, hb.trans (hb2.mono hb.size)⟩
  clear h hkn hne
  go_enter Tryz.func19, Tryz.ntmps19
  go_wp2_with (first
    | (go_at_call 39; (with_reducible refine H39.out.mono ?_); rintro e w2 ⟨b2, cap2, rfl, _, hb2, _, hm, hbl⟩)
    | (go_at_call 40; (with_reducible refine (H40.out _ _ _ hbl hb2 hm).mono ?_); rintro e w3 ⟨g, cp, rfl, hat, hb3⟩))
  go_ret
  exact ⟨g, cp, rfl, hat, hb3⟩
end Go.Proofs.YtnpcmmjdojdmnaaGreatDoor
