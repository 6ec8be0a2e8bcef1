/- Varints as FromUvarint reads them: at most nine bytes, in the shortest form. No program stands here. Which bytes are components: the reader's conditions, the table's alone, and that bytes are divided in one way. No program stands here but in names. FromUvarint (150) and ReadVarintCode (74) at any bytes. -/
import Derived.Below
import Derived.Lib.Varint
import Derived.Lib.VarintBits
import Derived.Test.YtnpcmmjdojdmnaaGreatDoorQi
import Derived.Test.YtnpcmmjdojdmnaaGreatDoorQr
import Derived.Test.YtnpcmmjdojdmnaaGreatDoorQq
import Derived.Laws.Closers25b
namespace Go.Proofs.YtnpcmmjdojdmnaaGreatDoor
open Go

/-- What FromUvarint reads from byte i on, with the sum so far. -/
def rdGo : Nat → Nat → List UInt8 → Option (Nat × Nat)
  | _, _, [] => none
  | i, x, b :: r =>
    if 9 ≤ i ∨ (i = 8 ∧ 128 ≤ b.toNat) then none
    else if b.toNat < 128 then (if b.toNat = 0 ∧ 0 < i then none else some (x + b.toNat * 128 ^ i, i + 1))
    else rdGo (i + 1) (x + b.toNat % 128 * 128 ^ i) r

/-- The number that bytes begin with, and how many bytes it takes. -/
def rdVar (b : List UInt8) : Option (Nat × Nat) := rdGo 0 0 b

theorem pow128_pos (i : Nat) : 1 ≤ 128 ^ i := Nat.one_le_pow _ _ (by decide)

theorem rdGo_uvarint : ∀ (k i x y : Nat) (r : List UInt8), i + k = 9 → 1 ≤ k → y < 128 ^ k → (y ≠ 0 ∨ i = 0) → rdGo i x (Lib.uvarint y ++ r) = some (x + y * 128 ^ i, i + (Lib.uvarint y).length)
  | 0, _, _, _, _, _, h1, _, _ => absurd h1 (by decide)
  | k + 1, i, x, y, r, hik, _, hy, h0 => by
    by_cases hs : y < 128
    · have e : (y.toUInt8).toNat = y := by simp; omega
      rw [Lib.uvarint_small hs, List.singleton_append, rdGo, e, if_neg (by omega), if_pos hs, if_neg (by omega)]
      rfl
    · have hk : 1 ≤ k := by
        rcases k with _ | k
        · rw [Nat.pow_one] at hy; omega
        · omega
      have hq : y / 128 < 128 ^ k := by rw [Nat.pow_succ] at hy; exact Nat.div_lt_of_lt_mul (by rw [Nat.mul_comm]; exact hy)
      have e : ((y % 128 + 128).toUInt8).toNat = y % 128 + 128 := by simp; omega
      have IH := rdGo_uvarint k (i + 1) (x + (y % 128 + 128) % 128 * 128 ^ i) (y / 128) r (by omega) hk hq (Or.inl (by omega))
      rw [Lib.uvarint_big (by omega), List.cons_append, rdGo, e, if_neg (by omega), if_neg (by omega), IH, List.length_cons]
      have e2 : (y % 128 + 128) % 128 = y % 128 := by omega
      have e3 : y / 128 * 128 ^ (i + 1) = (y / 128 * 128) * 128 ^ i := by rw [Nat.pow_succ, Nat.mul_assoc, Nat.mul_comm (128 ^ i) 128]
      have e4 : y % 128 + y / 128 * 128 = y := by omega
      refine congrArg some (Prod.ext ?_ ?_)
      · show x + (y % 128 + 128) % 128 * 128 ^ i + y / 128 * 128 ^ (i + 1) = x + y * 128 ^ i
        rw [e2, e3, Nat.add_assoc, ← Nat.add_mul, e4]
      · show i + 1 + (Lib.uvarint (y / 128)).length = i + ((Lib.uvarint (y / 128)).length + 1)
        omega

theorem rdGo_some : ∀ (b : List UInt8) (i x v n : Nat), rdGo i x b = some (v, n) →
    ∃ y r, b = Lib.uvarint y ++ r ∧ v = x + y * 128 ^ i ∧ n = i + (Lib.uvarint y).length ∧ y < 128 ^ (9 - i) ∧ (y ≠ 0 ∨ i = 0) ∧ i ≤ 8
  | [], _, _, _, _, h => by simp [rdGo] at h
  | b :: r, i, x, v, n, h => by
    have hb := b.toNat_lt
    rw [rdGo] at h
    split at h
    · cases h
    · rename_i h9
      split at h
      · rename_i hs
        split at h
        · cases h
        · rename_i hz
          injection h with h
          injection h with h1 h2
          refine ⟨b.toNat, r, ?_, h1.symm, ?_, ?_, by omega, by omega⟩
          · rw [Lib.uvarint_small hs]; simp
          · rw [Lib.uvarint_small hs]; simpa using h2.symm
          · refine Nat.lt_of_lt_of_le hs ?_
            have : (128 : Nat) ^ 1 ≤ 128 ^ (9 - i) := Nat.pow_le_pow_right (by decide) (by omega)
            simpa using this
      · rename_i hs
        obtain ⟨y, r', rfl, hv, hn, hy, hy0, hi⟩ := rdGo_some r (i + 1) _ v n h
        have hy0 : y ≠ 0 := by omega
        have hbig : 128 ≤ b.toNat % 128 + 128 * y := by omega
        have hm : (b.toNat % 128 + 128 * y) % 128 = b.toNat % 128 := by omega
        have hd : (b.toNat % 128 + 128 * y) / 128 = y := by omega
        have hbb : (b.toNat % 128 + 128).toUInt8 = b := by
          have : b.toNat % 128 + 128 = b.toNat := by omega
          rw [this]; simp
        refine ⟨b.toNat % 128 + 128 * y, r', ?_, ?_, ?_, ?_, Or.inl (by omega), by omega⟩
        · rw [Lib.uvarint_big hbig, hm, hd, hbb, List.cons_append]
        · rw [hv, Nat.pow_succ, Nat.add_mul, Nat.add_assoc]
          congr 2
          rw [Nat.mul_comm (128 ^ i) 128, ← Nat.mul_assoc, Nat.mul_comm y 128]
        · rw [Lib.uvarint_big hbig, hd, List.length_cons]; omega
        · rw [show 9 - i = (9 - (i + 1)) + 1 by omega, Nat.pow_succ]
          omega

theorem rdVar_uvarint (y : Nat) (r : List UInt8) (hy : y < 9223372036854775808) : rdVar (Lib.uvarint y ++ r) = some (y, (Lib.uvarint y).length) := by
  have e : (128 : Nat) ^ 9 = 9223372036854775808 := by decide
  have := rdGo_uvarint 9 0 0 y r (by omega) (by omega) (by omega) (Or.inr rfl)
  rw [rdVar, this]; simp

theorem rdVar_some {b : List UInt8} {v n : Nat} (h : rdVar b = some (v, n)) : ∃ r, b = Lib.uvarint v ++ r ∧ n = (Lib.uvarint v).length ∧ v < 9223372036854775808 := by
  obtain ⟨y, r, hb, hv, hn, hy, _, _⟩ := rdGo_some b 0 0 v n h
  have e : (128 : Nat) ^ (9 - 0) = 9223372036854775808 := by decide
  have hvy : v = y := by simpa using hv
  subst hvy
  exact ⟨r, hb, by omega, by omega⟩

/-- A code or a length: at most 2^31 - 1. -/
def rdCode (b : List UInt8) : Option (Nat × Nat) := match rdVar b with
  | none => none
  | some (v, n) => if 2147483647 < v then none else some (v, n)

theorem rdCode_uvarint (y : Nat) (r : List UInt8) (hy : y ≤ 2147483647) : rdCode (Lib.uvarint y ++ r) = some (y, (Lib.uvarint y).length) := by
  rw [rdCode, rdVar_uvarint y r (by omega)]
  exact if_neg (by omega)

theorem rdCode_some {b : List UInt8} {v n : Nat} (h : rdCode b = some (v, n)) : ∃ r, b = Lib.uvarint v ++ r ∧ n = (Lib.uvarint v).length ∧ v ≤ 2147483647 := by
  rw [rdCode] at h
  split at h
  · cases h
  · rename_i v' n' hv
    split at h
    · cases h
    · injection h with h
      injection h with h1 h2
      subst h1; subst h2
      obtain ⟨r, hb, hn, _⟩ := rdVar_some hv
      exact ⟨r, hb, hn, by omega⟩

end Go.Proofs.YtnpcmmjdojdmnaaGreatDoor
namespace Go.Proofs.YtnpcmmjdojdmnaaGreatDoor
open Go

/-- Bytes that are a multihash: its code, and the length of its digest. -/
def mhRead (l : List UInt8) : Option (Nat × Nat) :=
  if l.length < 2 then none else match rdVar l with
  | none => none
  | some (code, n) => match rdVar (l.drop n) with
    | none => none
    | some (m, k) => if 2147483647 < m ∨ (l.drop (n + k)).length < m then none else if (l.drop (n + k)).length = m then some (code, m) else none
def mhOk (l : List UInt8) : Bool := (mhRead l).isSome
def p2pOk (l : List UInt8) : Bool := match mhRead l with
  | none => false
  | some (code, m) => (code == 18 && m == 32) || code == 0

/-- Bytes that BytesToString of the transcoder of a protocol takes. -/
def btsOk (c : Int) (l : List UInt8) : Bool :=
  if c = 444 then !(l.getD 10 0 == 0 && l.getD 11 0 == 0)
  else if c = 445 then !(l.getD 35 0 == 0 && l.getD 36 0 == 0)
  else if c = 446 then decide (386 ≤ l.length)
  else if c = 447 then decide (35 ≤ l.length ∨ l.length = 32)
  else if c = 421 then mhOk l
  else true

/-- Bytes that ValidateBytes of the transcoder of a protocol takes. -/
def valOk (c : Int) (l : List UInt8) : Bool :=
  if c = 42 ∨ (53 ≤ c ∧ c ≤ 56) ∨ c = 449 then !l.contains 47
  else if c = 400 then decide (2 ≤ l.length) && l.getD 0 0 == 47 && l.getD (l.length - 1) 0 != 47
  else if c = 421 then p2pOk l
  else if c = 444 then !(l.getD 10 0 == 0 && l.getD 11 0 == 0)
  else if c = 445 then !(l.getD 35 0 == 0 && l.getD 36 0 == 0)
  else if c = 446 then decide (386 ≤ l.length)
  else if c = 447 then decide (35 ≤ l.length ∨ l.length = 32)
  else if c = 466 then mhOk l
  else true
def chk (c : Int) (l : List UInt8) : Bool := btsOk c l && valOk c l

/-- What the table alone asks of a component. -/
def OkF (c : Int) (l : List UInt8) : Prop := known c = true ∧ (psz c < 0 ∧ l.length < 9223372036854775808 ∨ psz c = (l.length : Int) * 8)
/-- What the reader asks of a component. -/
def OkC (c : Int) (l : List UInt8) : Prop := known c = true ∧ (psz c = 0 ∧ l = [] ∨ psz c ≠ 0 ∧ chk c l = true ∧ (psz c < 0 ∧ 1 ≤ l.length ∧ l.length ≤ 2147483647 ∨ psz c = (l.length : Int) * 8))
theorem OkC.okF {c : Int} {l : List UInt8} (h : OkC c l) : OkF c l := by
  obtain ⟨hk, h⟩ := h
  refine ⟨hk, ?_⟩
  rcases h with ⟨h, rfl⟩ | ⟨_, _, h | h⟩
  · exact Or.inr (by rw [h]; rfl)
  · exact Or.inl ⟨h.1, by omega⟩
  · exact Or.inr h

/-- The component that bytes begin with, by the table alone. -/
def readF (b : List UInt8) : Option (Int × List UInt8) := match rdCode b with
  | none => none
  | some (v, n) => if known v = false then none else
    if psz v < 0 then match rdVar (b.drop n) with
      | none => none
      | some (m, k) => if ((b.drop n).drop k).length < m then none else some ((v : Int), ((b.drop n).drop k).take m)
    else if (b.drop n).length < (psz v).toNat / 8 then none else some ((v : Int), (b.drop n).take ((psz v).toNat / 8))

theorem psz_nat {c : Int} (h : ¬ psz c < 0) : psz c = (((psz c).toNat / 8 : Nat) : Int) * 8 := by
  rcases known_cases c with rfl | rfl | rfl | rfl | rfl | rfl | rfl | rfl | rfl | rfl | rfl | rfl | rfl | rfl | rfl | rfl | rfl | rfl | rfl | rfl | rfl | rfl | rfl | rfl | rfl | rfl | rfl | rfl | rfl | rfl | rfl | rfl | rfl | rfl | rfl | rfl | rfl | rfl | h'
  all_goals first
    | (exfalso; exact h (by decide))
    | decide
    | simp [psz, row_none h']

theorem readF_comp {c : Int} {l : List UInt8} (h : OkF c l) (r : List UInt8) : readF (compBytes c l ++ r) = some (c, l) := by
  obtain ⟨hk, hs⟩ := h
  obtain ⟨hc, hc0⟩ := uvarint_code hk
  have hcc : ((c.toNat : Nat) : Int) = c := by omega
  rw [readF, compBytes, List.append_assoc, List.append_assoc, rdCode_uvarint _ _ hc]
  simp only [hcc, hk, List.drop_left]
  rw [if_neg (by decide)]
  by_cases hn : psz c < 0
  · have hl : l.length < 9223372036854775808 := by rcases hs with hs | hs <;> omega
    rw [if_pos hn, if_pos hn, rdVar_uvarint _ _ hl]
    simp only [List.drop_left]
    rw [if_neg (by simp), List.take_left]
  · have hm : psz c = (l.length : Int) * 8 := by rcases hs with hs | hs <;> omega
    have hq : (psz c).toNat / 8 = l.length := by omega
    rw [if_neg hn, if_neg hn, List.nil_append, hq, if_neg (by simp), List.take_left]

theorem readF_some {b : List UInt8} {c : Int} {l : List UInt8} (h : readF b = some (c, l)) : OkF c l ∧ ∃ r, b = compBytes c l ++ r := by
  rw [readF] at h
  split at h
  · cases h
  · rename_i v n hv
    obtain ⟨r, rfl, rfl, hv2⟩ := rdCode_some hv
    simp only [List.drop_left] at h
    split at h
    · cases h
    · rename_i hk
      have hk : known (v : Int) = true := by simpa using hk
      split at h
      · rename_i hn
        split at h
        · cases h
        · rename_i m k hm
          obtain ⟨r2, rfl, rfl, hm2⟩ := rdVar_some hm
          simp only [List.drop_left] at h
          split at h
          · cases h
          · rename_i hlt
            injection h with h
            injection h with h1 h2
            subst h1; subst h2
            have hl : (r2.take m).length = m := by rw [List.length_take]; omega
            refine ⟨⟨hk, Or.inl ⟨hn, by omega⟩⟩, r2.drop m, ?_⟩
            rw [compBytes, if_pos hn, hl, Int.toNat_natCast, List.append_assoc, List.append_assoc, List.take_append_drop]
      · rename_i hn
        split at h
        · cases h
        · rename_i hlt
          injection h with h
          injection h with h1 h2
          subst h1; subst h2
          have hl : (r.take ((psz (v : Int)).toNat / 8)).length = (psz (v : Int)).toNat / 8 := by rw [List.length_take]; omega
          refine ⟨⟨hk, Or.inr (by rw [hl]; exact psz_nat hn)⟩, r.drop ((psz (v : Int)).toNat / 8), ?_⟩
          rw [compBytes, if_neg hn, List.append_nil, Int.toNat_natCast, List.append_assoc, List.take_append_drop]

theorem okF_inj {c d : Int} {l m r s : List UInt8} (h : OkF c l) (h' : OkF d m) (he : compBytes c l ++ r = compBytes d m ++ s) : c = d ∧ l = m ∧ r = s := by
  have h1 := readF_comp h r
  rw [he, readF_comp h' s] at h1
  injection h1 with h1
  injection h1 with h1 h2
  subst h1; subst h2
  exact ⟨rfl, rfl, List.append_cancel_left he⟩

theorem compBytes_pos (c : Int) (l : List UInt8) : 1 ≤ (compBytes c l).length := by
  rw [compBytes, List.length_append, List.length_append]
  have := Lib.uvarint_pos c.toNat
  omega

/-- Bytes are divided in one way. -/
theorem all_split : ∀ (a z : List (Int × List UInt8)) (t : List UInt8), (∀ x ∈ a, OkF x.1 x.2) → (∀ x ∈ z, OkF x.1 x.2) → allBytes a ++ t = allBytes z → ∃ r, z = a ++ r ∧ t = allBytes r
  | [], z, t, _, _, h => ⟨z, rfl, h⟩
  | x :: a, [], t, _, _, h => by
    exfalso
    have := congrArg List.length h
    simp only [allBytes, List.length_append, List.length_nil] at this
    have := compBytes_pos x.1 x.2
    omega
  | x :: a, y :: z, t, ha, hz, h => by
    rw [allBytes, allBytes, List.append_assoc] at h
    obtain ⟨h1, h2, h3⟩ := okF_inj (ha x (by simp)) (hz y (by simp)) h
    obtain ⟨r, hr, ht⟩ := all_split a z t (fun u hu => ha u (by simp [hu])) (fun u hu => hz u (by simp [hu])) h3
    refine ⟨r, ?_, ht⟩
    rw [hr, List.cons_append]
    congr 1
    exact Prod.ext h1.symm h2.symm

theorem all_inj {a z : List (Int × List UInt8)} (ha : ∀ x ∈ a, OkF x.1 x.2) (hz : ∀ x ∈ z, OkF x.1 x.2) (h : allBytes a = allBytes z) : a = z := by
  obtain ⟨r, hr, ht⟩ := all_split a z [] ha hz (by rw [List.append_nil]; exact h)
  cases r with
  | nil => rw [hr, List.append_nil]
  | cons x r =>
    exfalso
    have := congrArg List.length ht
    simp only [allBytes, List.length_append, List.length_nil] at this
    have := compBytes_pos x.1 x.2
    omega

/-- The component that the reader reads at the beginning of bytes. -/
def readC (b : List UInt8) : Option (Int × List UInt8) := match rdCode b with
  | none => none
  | some (v, n) => if known v = false then none else
    if psz v = 0 then some ((v : Int), []) else
    if psz v < 0 then match rdCode (b.drop n) with
      | none => none
      | some (m, k) => if ((b.drop n).drop k).length < m ∨ m = 0 then none else if chk v (((b.drop n).drop k).take m) then some ((v : Int), ((b.drop n).drop k).take m) else none
    else if (b.drop n).length < (psz v).toNat / 8 then none else if chk v ((b.drop n).take ((psz v).toNat / 8)) then some ((v : Int), (b.drop n).take ((psz v).toNat / 8)) else none

theorem readC_comp {c : Int} {l : List UInt8} (h : OkC c l) (r : List UInt8) : readC (compBytes c l ++ r) = some (c, l) := by
  obtain ⟨hk, hs⟩ := h
  obtain ⟨hc, hc0⟩ := uvarint_code hk
  have hcc : ((c.toNat : Nat) : Int) = c := by omega
  rw [readC, compBytes, List.append_assoc, List.append_assoc, rdCode_uvarint _ _ hc]
  simp only [hcc, hk, List.drop_left]
  rw [if_neg (by decide)]
  rcases hs with ⟨hz, rfl⟩ | ⟨hz, hchk, hs⟩
  · rw [if_pos hz]
  rw [if_neg hz]
  rcases hs with ⟨hn, hl1, hl2⟩ | hm
  · rw [if_pos hn, if_pos hn, rdCode_uvarint _ _ hl2]
    simp only [List.drop_left]
    rw [if_neg (by rw [List.length_append]; omega), List.take_left, if_pos hchk]
  · have hn : ¬ psz c < 0 := by omega
    have hq : (psz c).toNat / 8 = l.length := by omega
    rw [if_neg hn, if_neg hn, List.nil_append, hq, if_neg (by simp), List.take_left, if_pos hchk]

theorem readC_some {b : List UInt8} {c : Int} {l : List UInt8} (h : readC b = some (c, l)) : OkC c l ∧ ∃ r, b = compBytes c l ++ r := by
  rw [readC] at h
  split at h
  · cases h
  · rename_i v n hv
    obtain ⟨r, rfl, rfl, hv2⟩ := rdCode_some hv
    simp only [List.drop_left] at h
    split at h
    · cases h
    · rename_i hk
      have hk : known (v : Int) = true := by simpa using hk
      split at h
      · rename_i hz
        injection h with h
        injection h with h1 h2
        subst h1; subst h2
        refine ⟨⟨hk, Or.inl ⟨hz, rfl⟩⟩, r, ?_⟩
        rw [compBytes, if_neg (by omega), List.append_nil, List.append_nil, Int.toNat_natCast]
      · rename_i hz
        split at h
        · rename_i hn
          split at h
          · cases h
          · rename_i m k hm
            obtain ⟨r2, rfl, rfl, hm2⟩ := rdCode_some hm
            simp only [List.drop_left] at h
            split at h
            · cases h
            · rename_i hlt
              split at h
              · rename_i hchk
                injection h with h
                injection h with h1 h2
                subst h1; subst h2
                have hl : (r2.take m).length = m := by rw [List.length_take]; omega
                refine ⟨⟨hk, Or.inr ⟨hz, hchk, Or.inl ⟨hn, by omega, by omega⟩⟩⟩, r2.drop m, ?_⟩
                rw [compBytes, if_pos hn, hl, Int.toNat_natCast, List.append_assoc, List.append_assoc, List.take_append_drop]
              · cases h
        · rename_i hn
          split at h
          · cases h
          · rename_i hlt
            split at h
            · rename_i hchk
              injection h with h
              injection h with h1 h2
              subst h1; subst h2
              have hl : (r.take ((psz (v : Int)).toNat / 8)).length = (psz (v : Int)).toNat / 8 := by rw [List.length_take]; omega
              refine ⟨⟨hk, Or.inr ⟨hz, hchk, Or.inr (by rw [hl]; exact psz_nat hn)⟩⟩, r.drop ((psz (v : Int)).toNat / 8), ?_⟩
              rw [compBytes, if_neg hn, List.append_nil, Int.toNat_natCast, List.append_assoc, List.take_append_drop]
            · cases h

/-- Bytes that are read as components: each by the reader's conditions, a path only at the end. -/
def RdOk (b : List UInt8) (cs : List (Int × List UInt8)) : Prop := b = allBytes cs ∧ cs ≠ [] ∧ (∀ x ∈ cs, OkC x.1 x.2) ∧ ∀ x ∈ cs.dropLast, ppath x.1 = false

end Go.Proofs.YtnpcmmjdojdmnaaGreatDoor
namespace Go.Proofs.YtnpcmmjdojdmnaaGreatDoor
open Go Go.RowKit

/-- Package variables that hold errors. -/
def Errs (w : World) : Prop := ∀ g ∈ [3, 5, 6, 20, 25, 26], ∃ t p, w.cell? ⟨g, 0, none⟩ = some (.iface t p)
theorem Errs.below {B : Nat} {w w' : World} (h : Errs w) (hb : Below B w w') (hB : w.heap.size ≤ B) : Errs w' := fun g hg => by
  obtain ⟨t, p, hc⟩ := h g hg
  exact ⟨t, p, (hb.cell (p := ⟨g, 0, none⟩) (Nat.lt_of_lt_of_le (World.block_lt_of_cell? w _ hc) hB)).trans hc⟩
theorem Errs.at {w : World} (h : Errs w) (g : Nat) (hg : g ∈ [3, 5, 6, 20, 25, 26] := by decide) : ∃ t p, w.cell? ⟨g, 0, none⟩ = some (.iface t p) := h g hg

/-- What a reader of varints hands back. -/
def RdIs (kd : IntKind) (r : Option (Nat × Nat)) (e : Ending) : Prop := match r with
  | some (v, n) => e = .returned (.tuple #[.int kd v, .int .i64 n, .nilIface])
  | none => ∃ t p, e = .returned (.tuple #[.int kd 0, .int .i64 0, .iface t p])

set_option maxHeartbeats 32000000 in
set_option maxRecDepth 100000 in
theorem fromUvarint (g o n c : Nat) (l : List UInt8) (w : World) (hl : l.length = n) (hcell : At w g o l) (hE : Errs w) :
    Calls Tryz.prog 150 #[.slice (some ⟨g, o, none⟩) n c] w fun e w' => RdIs .u64 (rdVar l) e ∧ Below w.heap.size w w' := by
  obtain ⟨t3, p3, c3⟩ := hE.at 3
  obtain ⟨t5, p5, c5⟩ := hE.at 5
  obtain ⟨t6, p6, c6⟩ := hE.at 6
  clear hE
  go_enter Tryz.func150, Tryz.ntmps150
  go_wp2
  go_loop [5, 6, 11] (fun vx vs vi => ∃ k acc : Nat, vi = .int .i64 k ∧ vs = .int .u64 ((7 * k : Nat) : Int) ∧ vx = .int .u64 acc ∧ k ≤ 9 ∧ k ≤ n ∧ acc < 2 ^ (7 * k) ∧ rdVar l = rdGo k acc (l.drop k))
    (fun _ _ vi => n - (intOf vi).toNat)
  case atStart => exact ⟨0, 0, rfl, rfl, rfl, by omega, by omega, by decide, rfl⟩
  case round =>
    obtain ⟨k, acc, rfl, rfl, rfl, hk10, hkn, hacc, hdec⟩ := hrel
    by_cases hk : k < n
    · have hc := hcell k (by omega)
      have hdrop : l.drop k = l[k]'(by omega) :: l.drop (k + 1) := List.drop_eq_getElem_cons (by omega)
      rw [hdrop] at hdec
      generalize l[k]'(by omega) = b at hc hdec
      have hb256 : b.toNat < 256 := b.toNat_lt
      clear hcell hdrop
      have hks : k = 0 ∨ k = 1 ∨ k = 2 ∨ k = 3 ∨ k = 4 ∨ k = 5 ∨ k = 6 ∨ k = 7 ∨ k = 8 ∨ k = 9 := by omega
      rcases hks with rfl | rfl | rfl | rfl | rfl | rfl | rfl | rfl | rfl | rfl
      · obtain rfl : acc = 0 := by simpa using hacc
        have hc0 : w.cell? ⟨g, o, none⟩ = some (.int .u8 b.toNat) := hc
        by_cases hb : b.toNat < 128
        · have hor : bits .or .u64 0 (b.toNat : Int) = (b.toNat : Int) := by
            rw [u64_orv0 _ _ (by omega) (by omega) (by omega) (by omega) (by omega)]
            omega
          have hF : rdGo 0 0 (b :: l.drop (0 + 1)) = some (b.toNat, 1) := by simp [rdGo, hb]
          have HD := Lib.hid (hdec.trans hF)
          clear hdec hF
          cases ez : ((b.toNat : Int) == 0)
          all_goals
            go_wp2
            go_ret3
            rw [HD.out]
            exact ⟨rfl, Below.refl _ _⟩
        · have hv : bits .or .u64 0 (IntKind.u64.wrap (IntKind.u64.wrap (bits .and .u8 (b.toNat : Int) 127))) = ((b.toNat % 128 : Nat) : Int) := by
            simp (disch := omega) only [u8_and127, u64_wrap_id, u64_orv0]
            omega
          have hF : rdGo 0 0 (b :: l.drop (0 + 1)) = rdGo 1 (b.toNat % 128) (l.drop (0 + 1)) := by simp [rdGo, hb]
          have HD := Lib.hid (hdec.trans hF)
          clear hdec hF
          go_wp2
          refine ⟨⟨1, b.toNat % 128, rfl, rfl, (by first | rfl | (congr 1; omega)), by omega, by omega, ?_, HD.out⟩, by simp [intOf]; omega⟩
          show b.toNat % 128 < 2 ^ 7
          omega
      · have hacc' : acc < 128 := by simpa using hacc
        by_cases hb : b.toNat < 128
        · by_cases hz : b.toNat = 0
          · have hF : rdGo 1 acc (b :: l.drop (1 + 1)) = none := by simp [rdGo, hz]
            have HD := Lib.hid (hdec.trans hF)
            clear hdec hF
            go_wp2
            go_quiet (fail)
            go_wp2
            go_ret3
            rw [HD.out]
            exact ⟨⟨t5, p5, rfl⟩, below_drewN (Below.refl _ _) _⟩
          · have hor : bits .or .u64 (acc : Int) ((b.toNat : Int) * 128) = ((acc + b.toNat * 128 : Nat) : Int) := by
              rw [u64_orv7 _ _ (by omega) (by omega) (by omega) (by omega) (by omega)]
              omega
            have hF : rdGo 1 acc (b :: l.drop (1 + 1)) = some (acc + b.toNat * 128, 2) := by simp [rdGo, hb, hz]
            have HD := Lib.hid (hdec.trans hF)
            clear hdec hF
            go_wp2
            go_ret3
            rw [HD.out]
            exact ⟨rfl, Below.refl _ _⟩
        · have hv : bits .or .u64 (acc : Int) (IntKind.u64.wrap (IntKind.u64.wrap (bits .and .u8 (b.toNat : Int) 127) * 128)) = ((acc + b.toNat % 128 * 128 : Nat) : Int) := by
            simp (disch := omega) only [u8_and127, u64_wrap_id, u64_orv7]
            omega
          have hF : rdGo 1 acc (b :: l.drop (1 + 1)) = rdGo 2 (acc + b.toNat % 128 * 128) (l.drop (1 + 1)) := by simp [rdGo, hb]
          have HD := Lib.hid (hdec.trans hF)
          clear hdec hF
          go_wp2
          refine ⟨⟨2, acc + b.toNat % 128 * 128, rfl, rfl, (by first | rfl | (congr 1; omega)), by omega, by omega, ?_, HD.out⟩, by simp [intOf]; omega⟩
          show acc + b.toNat % 128 * 128 < 2 ^ 14
          have e2 : (2 : Nat) ^ 14 = 16384 := by decide
          omega
      · have hacc' : acc < 16384 := by simpa using hacc
        by_cases hb : b.toNat < 128
        · by_cases hz : b.toNat = 0
          · have hF : rdGo 2 acc (b :: l.drop (2 + 1)) = none := by simp [rdGo, hz]
            have HD := Lib.hid (hdec.trans hF)
            clear hdec hF
            go_wp2
            go_quiet (fail)
            go_wp2
            go_ret3
            rw [HD.out]
            exact ⟨⟨t5, p5, rfl⟩, below_drewN (Below.refl _ _) _⟩
          · have hor : bits .or .u64 (acc : Int) ((b.toNat : Int) * 16384) = ((acc + b.toNat * 16384 : Nat) : Int) := by
              rw [u64_orv14 _ _ (by omega) (by omega) (by omega) (by omega) (by omega)]
              omega
            have hF : rdGo 2 acc (b :: l.drop (2 + 1)) = some (acc + b.toNat * 16384, 3) := by simp [rdGo, hb, hz]
            have HD := Lib.hid (hdec.trans hF)
            clear hdec hF
            go_wp2
            go_ret3
            rw [HD.out]
            exact ⟨rfl, Below.refl _ _⟩
        · have hv : bits .or .u64 (acc : Int) (IntKind.u64.wrap (IntKind.u64.wrap (bits .and .u8 (b.toNat : Int) 127) * 16384)) = ((acc + b.toNat % 128 * 16384 : Nat) : Int) := by
            simp (disch := omega) only [u8_and127, u64_wrap_id, u64_orv14]
            omega
          have hF : rdGo 2 acc (b :: l.drop (2 + 1)) = rdGo 3 (acc + b.toNat % 128 * 16384) (l.drop (2 + 1)) := by simp [rdGo, hb]
          have HD := Lib.hid (hdec.trans hF)
          clear hdec hF
          go_wp2
          refine ⟨⟨3, acc + b.toNat % 128 * 16384, rfl, rfl, (by first | rfl | (congr 1; omega)), by omega, by omega, ?_, HD.out⟩, by simp [intOf]; omega⟩
          show acc + b.toNat % 128 * 16384 < 2 ^ 21
          have e2 : (2 : Nat) ^ 21 = 2097152 := by decide
          omega
      · have hacc' : acc < 2097152 := by simpa using hacc
        by_cases hb : b.toNat < 128
        · by_cases hz : b.toNat = 0
          · have hF : rdGo 3 acc (b :: l.drop (3 + 1)) = none := by simp [rdGo, hz]
            have HD := Lib.hid (hdec.trans hF)
            clear hdec hF
            go_wp2
            go_quiet (fail)
            go_wp2
            go_ret3
            rw [HD.out]
            exact ⟨⟨t5, p5, rfl⟩, below_drewN (Below.refl _ _) _⟩
          · have hor : bits .or .u64 (acc : Int) ((b.toNat : Int) * 2097152) = ((acc + b.toNat * 2097152 : Nat) : Int) := by
              rw [u64_orv21 _ _ (by omega) (by omega) (by omega) (by omega) (by omega)]
              omega
            have hF : rdGo 3 acc (b :: l.drop (3 + 1)) = some (acc + b.toNat * 2097152, 4) := by simp [rdGo, hb, hz]
            have HD := Lib.hid (hdec.trans hF)
            clear hdec hF
            go_wp2
            go_ret3
            rw [HD.out]
            exact ⟨rfl, Below.refl _ _⟩
        · have hv : bits .or .u64 (acc : Int) (IntKind.u64.wrap (IntKind.u64.wrap (bits .and .u8 (b.toNat : Int) 127) * 2097152)) = ((acc + b.toNat % 128 * 2097152 : Nat) : Int) := by
            simp (disch := omega) only [u8_and127, u64_wrap_id, u64_orv21]
            omega
          have hF : rdGo 3 acc (b :: l.drop (3 + 1)) = rdGo 4 (acc + b.toNat % 128 * 2097152) (l.drop (3 + 1)) := by simp [rdGo, hb]
          have HD := Lib.hid (hdec.trans hF)
          clear hdec hF
          go_wp2
          refine ⟨⟨4, acc + b.toNat % 128 * 2097152, rfl, rfl, (by first | rfl | (congr 1; omega)), by omega, by omega, ?_, HD.out⟩, by simp [intOf]; omega⟩
          show acc + b.toNat % 128 * 2097152 < 2 ^ 28
          have e2 : (2 : Nat) ^ 28 = 268435456 := by decide
          omega
      · have hacc' : acc < 268435456 := by simpa using hacc
        by_cases hb : b.toNat < 128
        · by_cases hz : b.toNat = 0
          · have hF : rdGo 4 acc (b :: l.drop (4 + 1)) = none := by simp [rdGo, hz]
            have HD := Lib.hid (hdec.trans hF)
            clear hdec hF
            go_wp2
            go_quiet (fail)
            go_wp2
            go_ret3
            rw [HD.out]
            exact ⟨⟨t5, p5, rfl⟩, below_drewN (Below.refl _ _) _⟩
          · have hor : bits .or .u64 (acc : Int) ((b.toNat : Int) * 268435456) = ((acc + b.toNat * 268435456 : Nat) : Int) := by
              rw [u64_orv28 _ _ (by omega) (by omega) (by omega) (by omega) (by omega)]
              omega
            have hF : rdGo 4 acc (b :: l.drop (4 + 1)) = some (acc + b.toNat * 268435456, 5) := by simp [rdGo, hb, hz]
            have HD := Lib.hid (hdec.trans hF)
            clear hdec hF
            go_wp2
            go_ret3
            rw [HD.out]
            exact ⟨rfl, Below.refl _ _⟩
        · have hv : bits .or .u64 (acc : Int) (IntKind.u64.wrap (IntKind.u64.wrap (bits .and .u8 (b.toNat : Int) 127) * 268435456)) = ((acc + b.toNat % 128 * 268435456 : Nat) : Int) := by
            simp (disch := omega) only [u8_and127, u64_wrap_id, u64_orv28]
            omega
          have hF : rdGo 4 acc (b :: l.drop (4 + 1)) = rdGo 5 (acc + b.toNat % 128 * 268435456) (l.drop (4 + 1)) := by simp [rdGo, hb]
          have HD := Lib.hid (hdec.trans hF)
          clear hdec hF
          go_wp2
          refine ⟨⟨5, acc + b.toNat % 128 * 268435456, rfl, rfl, (by first | rfl | (congr 1; omega)), by omega, by omega, ?_, HD.out⟩, by simp [intOf]; omega⟩
          show acc + b.toNat % 128 * 268435456 < 2 ^ 35
          have e2 : (2 : Nat) ^ 35 = 34359738368 := by decide
          omega
      · have hacc' : acc < 34359738368 := by simpa using hacc
        by_cases hb : b.toNat < 128
        · by_cases hz : b.toNat = 0
          · have hF : rdGo 5 acc (b :: l.drop (5 + 1)) = none := by simp [rdGo, hz]
            have HD := Lib.hid (hdec.trans hF)
            clear hdec hF
            go_wp2
            go_quiet (fail)
            go_wp2
            go_ret3
            rw [HD.out]
            exact ⟨⟨t5, p5, rfl⟩, below_drewN (Below.refl _ _) _⟩
          · have hor : bits .or .u64 (acc : Int) ((b.toNat : Int) * 34359738368) = ((acc + b.toNat * 34359738368 : Nat) : Int) := by
              rw [u64_orv35 _ _ (by omega) (by omega) (by omega) (by omega) (by omega)]
              omega
            have hF : rdGo 5 acc (b :: l.drop (5 + 1)) = some (acc + b.toNat * 34359738368, 6) := by simp [rdGo, hb, hz]
            have HD := Lib.hid (hdec.trans hF)
            clear hdec hF
            go_wp2
            go_ret3
            rw [HD.out]
            exact ⟨rfl, Below.refl _ _⟩
        · have hv : bits .or .u64 (acc : Int) (IntKind.u64.wrap (IntKind.u64.wrap (bits .and .u8 (b.toNat : Int) 127) * 34359738368)) = ((acc + b.toNat % 128 * 34359738368 : Nat) : Int) := by
            simp (disch := omega) only [u8_and127, u64_wrap_id, u64_orv35]
            omega
          have hF : rdGo 5 acc (b :: l.drop (5 + 1)) = rdGo 6 (acc + b.toNat % 128 * 34359738368) (l.drop (5 + 1)) := by simp [rdGo, hb]
          have HD := Lib.hid (hdec.trans hF)
          clear hdec hF
          go_wp2
          refine ⟨⟨6, acc + b.toNat % 128 * 34359738368, rfl, rfl, (by first | rfl | (congr 1; omega)), by omega, by omega, ?_, HD.out⟩, by simp [intOf]; omega⟩
          show acc + b.toNat % 128 * 34359738368 < 2 ^ 42
          have e2 : (2 : Nat) ^ 42 = 4398046511104 := by decide
          omega
      · have hacc' : acc < 4398046511104 := by simpa using hacc
        by_cases hb : b.toNat < 128
        · by_cases hz : b.toNat = 0
          · have hF : rdGo 6 acc (b :: l.drop (6 + 1)) = none := by simp [rdGo, hz]
            have HD := Lib.hid (hdec.trans hF)
            clear hdec hF
            go_wp2
            go_quiet (fail)
            go_wp2
            go_ret3
            rw [HD.out]
            exact ⟨⟨t5, p5, rfl⟩, below_drewN (Below.refl _ _) _⟩
          · have hor : bits .or .u64 (acc : Int) ((b.toNat : Int) * 4398046511104) = ((acc + b.toNat * 4398046511104 : Nat) : Int) := by
              rw [u64_orv42 _ _ (by omega) (by omega) (by omega) (by omega) (by omega)]
              omega
            have hF : rdGo 6 acc (b :: l.drop (6 + 1)) = some (acc + b.toNat * 4398046511104, 7) := by simp [rdGo, hb, hz]
            have HD := Lib.hid (hdec.trans hF)
            clear hdec hF
            go_wp2
            go_ret3
            rw [HD.out]
            exact ⟨rfl, Below.refl _ _⟩
        · have hv : bits .or .u64 (acc : Int) (IntKind.u64.wrap (IntKind.u64.wrap (bits .and .u8 (b.toNat : Int) 127) * 4398046511104)) = ((acc + b.toNat % 128 * 4398046511104 : Nat) : Int) := by
            simp (disch := omega) only [u8_and127, u64_wrap_id, u64_orv42]
            omega
          have hF : rdGo 6 acc (b :: l.drop (6 + 1)) = rdGo 7 (acc + b.toNat % 128 * 4398046511104) (l.drop (6 + 1)) := by simp [rdGo, hb]
          have HD := Lib.hid (hdec.trans hF)
          clear hdec hF
          go_wp2
          refine ⟨⟨7, acc + b.toNat % 128 * 4398046511104, rfl, rfl, (by first | rfl | (congr 1; omega)), by omega, by omega, ?_, HD.out⟩, by simp [intOf]; omega⟩
          show acc + b.toNat % 128 * 4398046511104 < 2 ^ 49
          have e2 : (2 : Nat) ^ 49 = 562949953421312 := by decide
          omega
      · have hacc' : acc < 562949953421312 := by simpa using hacc
        by_cases hb : b.toNat < 128
        · by_cases hz : b.toNat = 0
          · have hF : rdGo 7 acc (b :: l.drop (7 + 1)) = none := by simp [rdGo, hz]
            have HD := Lib.hid (hdec.trans hF)
            clear hdec hF
            go_wp2
            go_quiet (fail)
            go_wp2
            go_ret3
            rw [HD.out]
            exact ⟨⟨t5, p5, rfl⟩, below_drewN (Below.refl _ _) _⟩
          · have hor : bits .or .u64 (acc : Int) ((b.toNat : Int) * 562949953421312) = ((acc + b.toNat * 562949953421312 : Nat) : Int) := by
              rw [u64_orv49 _ _ (by omega) (by omega) (by omega) (by omega) (by omega)]
              omega
            have hF : rdGo 7 acc (b :: l.drop (7 + 1)) = some (acc + b.toNat * 562949953421312, 8) := by simp [rdGo, hb, hz]
            have HD := Lib.hid (hdec.trans hF)
            clear hdec hF
            go_wp2
            go_ret3
            rw [HD.out]
            exact ⟨rfl, Below.refl _ _⟩
        · have hv : bits .or .u64 (acc : Int) (IntKind.u64.wrap (IntKind.u64.wrap (bits .and .u8 (b.toNat : Int) 127) * 562949953421312)) = ((acc + b.toNat % 128 * 562949953421312 : Nat) : Int) := by
            simp (disch := omega) only [u8_and127, u64_wrap_id, u64_orv49]
            omega
          have hF : rdGo 7 acc (b :: l.drop (7 + 1)) = rdGo 8 (acc + b.toNat % 128 * 562949953421312) (l.drop (7 + 1)) := by simp [rdGo, hb]
          have HD := Lib.hid (hdec.trans hF)
          clear hdec hF
          go_wp2
          refine ⟨⟨8, acc + b.toNat % 128 * 562949953421312, rfl, rfl, (by first | rfl | (congr 1; omega)), by omega, by omega, ?_, HD.out⟩, by simp [intOf]; omega⟩
          show acc + b.toNat % 128 * 562949953421312 < 2 ^ 56
          have e2 : (2 : Nat) ^ 56 = 72057594037927936 := by decide
          omega
      · have hacc' : acc < 72057594037927936 := by simpa using hacc
        by_cases hb : b.toNat < 128
        · by_cases hz : b.toNat = 0
          · have hF : rdGo 8 acc (b :: l.drop (8 + 1)) = none := by simp [rdGo, hz]
            have HD := Lib.hid (hdec.trans hF)
            clear hdec hF
            go_wp2
            go_quiet (fail)
            go_wp2
            go_ret3
            rw [HD.out]
            exact ⟨⟨t5, p5, rfl⟩, below_drewN (Below.refl _ _) _⟩
          · have hor : bits .or .u64 (acc : Int) ((b.toNat : Int) * 72057594037927936) = ((acc + b.toNat * 72057594037927936 : Nat) : Int) := by
              rw [u64_orv56 _ _ (by omega) (by omega) (by omega) (by omega) (by omega)]
              omega
            have hF : rdGo 8 acc (b :: l.drop (8 + 1)) = some (acc + b.toNat * 72057594037927936, 9) := by simp [rdGo, hb, hz]
            have HD := Lib.hid (hdec.trans hF)
            clear hdec hF
            go_wp2
            go_ret3
            rw [HD.out]
            exact ⟨rfl, Below.refl _ _⟩
        · have hF : rdGo 8 acc (b :: l.drop (8 + 1)) = none := by simp [rdGo]; omega
          have HD := Lib.hid (hdec.trans hF)
          clear hdec hF
          go_wp2
          go_quiet (fail)
          go_wp2
          go_ret3
          rw [HD.out]
          exact ⟨⟨t3, p3, rfl⟩, below_drewN (Below.refl _ _) _⟩
      · have hF : rdGo 9 acc (b :: l.drop (9 + 1)) = none := by simp [rdGo]
        have HD := Lib.hid (hdec.trans hF)
        clear hdec hF
        go_wp2
        go_quiet (fail)
        go_wp2
        go_ret3
        rw [HD.out]
        exact ⟨⟨t3, p3, rfl⟩, below_drewN (Below.refl _ _) _⟩
    · have hF : rdGo k acc (l.drop k) = none := by rw [List.drop_eq_nil_of_le (by omega)]; rfl
      have HD := Lib.hid (hdec.trans hF)
      clear hdec hF
      go_wp2
      go_quiet (fail)
      go_wp2
      go_ret3
      rw [HD.out]
      exact ⟨⟨t6, p6, rfl⟩, below_drewN (Below.refl _ _) _⟩

set_option maxRecDepth 100000 in
set_option maxHeartbeats 4000000 in
theorem readVarintCode (g o n c : Nat) (l : List UInt8) (w : World) (hl : l.length = n) (hcell : At w g o l) (hE : Errs w) :
    Calls Tryz.prog 74 #[.slice (some ⟨g, o, none⟩) n c] w fun e w' => RdIs .i64 (rdCode l) e ∧ Below w.heap.size w w' := by
  obtain ⟨t3, p3, c3⟩ := hE.at 3
  have HC := Lib.hid (fromUvarint g o n c l w hl hcell hE)
  have H3 : ∀ w', Below w.heap.size w w' → w'.cell? ⟨3, 0, none⟩ = some (.iface t3 p3) := fun w' hb => (hb.cell (p := ⟨3, 0, none⟩) (World.block_lt_of_cell? w _ c3)).trans c3
  clear hcell hE
  cases hr : rdVar l with
  | none =>
    have hF : rdCode l = none := by rw [rdCode, hr]
    rw [hr] at HC
    rw [hF]
    clear hr hF
    go_enter Tryz.func74, Tryz.ntmps74
    go_wp2_with (go_at_call 150; (with_reducible refine HC.out.mono ?_); rintro e w2 ⟨⟨t, p, rfl⟩, hb⟩)
    go_ret3
    exact ⟨⟨_, _, rfl⟩, hb⟩
  | some r =>
    obtain ⟨v, k⟩ := r
    rw [hr] at HC
    have hv := (rdVar_some hr).choose_spec.2.2
    have hk : k ≤ 10 := by rw [(rdVar_some hr).choose_spec.2.1]; exact Lib.uvarint_length64 (by omega)
    by_cases hlt : 2147483647 < v
    · have hF : rdCode l = none := by rw [rdCode, hr]; exact if_pos hlt
      rw [hF]
      have e1 : decide (2147483647 < (v : Int)) = true := by simp; omega
      clear hr hF hlt c3
      go_enter Tryz.func74, Tryz.ntmps74
      go_wp2_with (go_at_call 150; (with_reducible refine HC.out.mono ?_); rintro e w2 ⟨rfl, hb⟩; have c3 := H3 w2 hb)
      go_quiet (fail)
      go_wp2
      go_ret3
      exact ⟨⟨_, _, rfl⟩, below_drewN hb _⟩
    · have hF : rdCode l = some (v, k) := by rw [rdCode, hr]; exact if_neg hlt
      rw [hF]
      have e1 : decide (2147483647 < (v : Int)) = false := by simp; omega
      clear hr hF
      go_enter Tryz.func74, Tryz.ntmps74
      go_wp2_with (go_at_call 150; (with_reducible refine HC.out.mono ?_); rintro e w2 ⟨rfl, hb⟩)
      go_ret3
      exact ⟨rfl, hb⟩
end Go.Proofs.YtnpcmmjdojdmnaaGreatDoor
