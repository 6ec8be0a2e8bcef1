/- The text of an address of 128 bits, and its reading back: plain law, no program. zzDigit, zzHex: hexadecimal digits are read and written. zzParse6: an address of 128 bits is read. -/
import Derived.KernelRfl
import Derived.Test.YtnpcmmjdojdmnaaGreatDoorQc
import Derived.IntWalk
import Derived.WalkSpells
import Derived.WalkLawsBesides
import Derived.Test.YtnpcmmjdojdmnaaGreatDoorQo
import Derived.Deep.WholeRow
namespace Go.Proofs.YtnpcmmjdojdmnaaGreatDoor
/-- A hexadecimal digit. -/
def hexDig (d : Nat) : UInt8 := UInt8.ofNat (if d < 10 then 48 + d else 87 + d)
/-- The value of a hexadecimal digit. -/
def hexVal (c : UInt8) : Option Nat :=
  if 48 ≤ c.toNat ∧ c.toNat ≤ 57 then some (c.toNat - 48)
  else if 97 ≤ c.toNat ∧ c.toNat ≤ 102 then some (c.toNat - 87)
  else if 65 ≤ c.toNat ∧ c.toNat ≤ 70 then some (c.toNat - 55) else none
/-- The hexadecimal digits of a number. -/
def hexs (n : Nat) : List UInt8 := if n < 16 then [hexDig n] else hexs (n / 16) ++ [hexDig (n % 16)]
/-- Digits are read: the number, how many, what is left; nothing beyond four. -/
def hexRun : Nat → Nat → List UInt8 → Option (Nat × Nat × List UInt8)
  | acc, off, [] => some (acc, off, [])
  | acc, off, x :: r => match hexVal x with
    | none => some (acc, off, x :: r)
    | some d => if 3 < off then none else hexRun (acc * 16 + d) (off + 1) r
/-- The reader of groups. -/
def p6 : Nat → List UInt8 → List Nat → Option Nat → Option (List Nat × Option Nat)
  | 0, _, _, _ => none
  | fuel + 1, l, gs, ell =>
    if 8 ≤ gs.length then (if l = [] then some (gs, ell) else none)
    else match hexRun 0 0 l with
      | none => none
      | some (acc, off, rest) =>
        if off = 0 then none
        else match rest with
          | [] => some (gs ++ [acc], ell)
          | [_] => none
          | c :: c2 :: r2 =>
            if c.toNat ≠ 58 then none
            else if c2.toNat = 58 then
              if ell.isSome then none else if r2 = [] then some (gs ++ [acc], some (gs.length + 1)) else p6 fuel r2 (gs ++ [acc]) (some (gs.length + 1))
            else p6 fuel (c2 :: r2) (gs ++ [acc]) ell
/-- The groups that an ellipsis stands for. -/
def expand : List Nat × Option Nat → Option (List Nat)
  | (gs, none) => if gs.length = 8 then some gs else none
  | (gs, some e) => if gs.length < 8 then some (gs.take e ++ List.replicate (8 - gs.length) 0 ++ gs.drop e) else none
/-- The reader of addresses of 128 bits. -/
def parse6 (l : List UInt8) : Option (List Nat) :=
  if l.take 2 = [58, 58] then (if l.drop 2 = [] then some (List.replicate 8 0) else (p6 9 (l.drop 2) [] (some 0)).bind expand)
  else (p6 9 l [] none).bind expand
/-- Groups with colons between them. -/
def joinC : List Nat → List UInt8
  | [] => []
  | [g] => hexs g
  | g :: g2 :: r => hexs g ++ 58 :: joinC (g2 :: r)
/-- The text of eight groups; those from 'fr' to 'to' are left out. -/
def fmt6 (gs : List Nat) (fr to : Nat) : List UInt8 := if fr = 255 then joinC gs else joinC (gs.take fr) ++ [58, 58] ++ joinC (gs.drop to)

theorem hexVal_hexDig (d : Nat) (h : d < 16) : hexVal (hexDig d) = some d := by
  have : ∀ d : Fin 16, hexVal (hexDig d) = some d.val := by decide
  exact this ⟨d, h⟩
theorem hexs_ne (n : Nat) : hexs n ≠ [] := by rw [hexs]; split <;> simp
theorem hexs_len : ∀ (k n : Nat), n < 16 ^ (k + 1) → (hexs n).length ≤ k + 1
  | 0, n, h => by rw [hexs, if_pos (by simpa using h)]; simp
  | k + 1, n, h => by
    rw [hexs]
    split
    · simp
    · have := hexs_len k (n / 16) (by rw [Nat.div_lt_iff_lt_mul (by decide), ← Nat.pow_succ]; exact h)
      simp; omega
theorem hexs_mem (n : Nat) : ∀ x ∈ hexs n, ∃ d, d < 16 ∧ x = hexDig d := by
  induction n using Nat.strongRecOn with
  | _ n ih =>
    rw [hexs]
    split
    · rename_i h; intro x hx; exact ⟨n, h, by simpa using hx⟩
    · rename_i h
      intro x hx
      rcases List.mem_append.1 hx with hx | hx
      · exact ih (n / 16) (by omega) x hx
      · exact ⟨n % 16, by omega, by simpa using hx⟩
theorem hexRun_hexs (n : Nat) : ∀ (acc off : Nat) (rest : List UInt8), off + (hexs n).length ≤ 4 →
    hexRun acc off (hexs n ++ rest) = hexRun (acc * 16 ^ (hexs n).length + n) (off + (hexs n).length) rest := by
  induction n using Nat.strongRecOn with
  | _ n ih =>
    intro acc off rest hl
    by_cases h : n < 16
    · have e : hexs n = [hexDig n] := by rw [hexs, if_pos h]
      rw [e] at hl ⊢
      simp only [List.length_singleton] at hl ⊢
      rw [List.cons_append, List.nil_append, hexRun, hexVal_hexDig n h]
      simp only
      rw [if_neg (by omega), Nat.pow_one]
    · have e : hexs n = hexs (n / 16) ++ [hexDig (n % 16)] := by rw [hexs, if_neg h]
      have ih' := ih (n / 16) (by omega)
      rw [e] at hl ⊢
      simp only [List.length_append, List.length_singleton] at hl ⊢
      rw [List.append_assoc, ih' acc off _ (by omega), List.cons_append, List.nil_append, hexRun, hexVal_hexDig _ (by omega)]
      simp only
      rw [if_neg (by omega), Nat.pow_succ]
      congr 1
      have := Nat.div_add_mod n 16
      rw [Nat.add_mul, Nat.mul_assoc]; omega
theorem hexRun_stop (n : Nat) (h : n < 65536) (rest : List UInt8) (hr : rest = [] ∨ ∃ r, rest = 58 :: r) :
    ∃ k, k ≠ 0 ∧ hexRun 0 0 (hexs n ++ rest) = some (n, k, rest) := by
  have hl := hexs_len 3 n (by simpa using h)
  have hne := hexs_ne n
  refine ⟨(hexs n).length, by rw [Ne, List.length_eq_zero_iff]; exact hne, ?_⟩
  rw [hexRun_hexs n 0 0 rest (by omega), Nat.zero_mul, Nat.zero_add, Nat.zero_add]
  rcases hr with rfl | ⟨r, rfl⟩
  · rw [hexRun]
  · rw [hexRun]
    have : hexVal 58 = none := by decide
    rw [this]
theorem joinC_head (g : Nat) (r : List Nat) : ∃ d t, d < 16 ∧ joinC (g :: r) = hexDig d :: t := by
  obtain ⟨x, t, hx⟩ : ∃ x t, hexs g = x :: t := by
    cases h : hexs g with
    | nil => exact absurd h (hexs_ne g)
    | cons x t => exact ⟨x, t, rfl⟩
  obtain ⟨d, hd, rfl⟩ := hexs_mem g x (by rw [hx]; exact List.mem_cons_self ..)
  cases r with
  | nil => exact ⟨d, t, hd, by rw [joinC, hx]⟩
  | cons g2 r => exact ⟨d, t ++ 58 :: joinC (g2 :: r), hd, by rw [joinC, hx]; rfl⟩
theorem hexDig_ne (d : Nat) (h : d < 16) : (hexDig d).toNat ≠ 58 := by
  have : ∀ d : Fin 16, (hexDig d).toNat ≠ 58 := by decide
  exact this ⟨d, h⟩
theorem p6_join : ∀ (B A : List Nat) (ell : Option Nat) (fuel : Nat), B ≠ [] → A.length + B.length ≤ 8 → B.length ≤ fuel → (∀ g ∈ B, g < 65536) → p6 fuel (joinC B) A ell = some (A ++ B, ell)
  | [], _, _, _, h, _, _, _ => absurd rfl h
  | [g], A, ell, fuel + 1, _, hA, _, hg => by
    obtain ⟨k, hk, he⟩ := hexRun_stop g (hg g (by simp)) [] (Or.inl rfl)
    rw [List.append_nil] at he
    rw [joinC, p6, if_neg (by simp at hA; omega), he]
    simp only
    rw [if_neg hk]
  | g :: g2 :: r, A, ell, fuel + 1, _, hA, hf, hg => by
    obtain ⟨k, hk, he⟩ := hexRun_stop g (hg g (by simp)) (58 :: joinC (g2 :: r)) (Or.inr ⟨_, rfl⟩)
    have ih := p6_join (g2 :: r) (A ++ [g]) ell fuel (by simp) (by simp at hA ⊢; omega) (by simp at hf ⊢; omega) (fun x hx => hg x (List.mem_cons_of_mem _ hx))
    rw [joinC, p6, if_neg (by simp at hA; omega), he]
    obtain ⟨d, t, hd, hj⟩ := joinC_head g2 r
    rw [hj] at ih ⊢
    simp only
    rw [if_neg hk, if_neg (by decide), if_neg (hexDig_ne d hd), ih, List.append_assoc]; rfl
  | _ :: _, _, _, 0, _, _, h, _ => by simp at h
theorem p6_mid : ∀ (L A B : List Nat) (fuel : Nat), L ≠ [] → A.length + L.length + B.length ≤ 7 → L.length + B.length ≤ fuel → (∀ g ∈ L, g < 65536) → (∀ g ∈ B, g < 65536) →
    p6 fuel (joinC L ++ 58 :: 58 :: joinC B) A none = some (A ++ L ++ B, some (A.length + L.length))
  | [], _, _, _, h, _, _, _, _ => absurd rfl h
  | [g], A, B, fuel + 1, _, hA, hf, hg, hB => by
    obtain ⟨k, hk, he⟩ := hexRun_stop g (hg g (by simp)) (58 :: 58 :: joinC B) (Or.inr ⟨_, rfl⟩)
    rw [joinC, p6, if_neg (by simp at hA; omega), he]
    simp only
    rw [if_neg hk, if_neg (by decide), if_pos (by decide), if_neg (by simp)]
    cases B with
    | nil => rw [joinC, if_pos rfl]; simp
    | cons b B =>
      obtain ⟨d, t, hd, hj⟩ := joinC_head b B
      rw [if_neg (by rw [hj]; simp), p6_join (b :: B) (A ++ [g]) _ fuel (by simp) (by simp at hA ⊢; omega) (by simp at hf ⊢; omega) hB]
      simp
  | g :: g2 :: r, A, B, fuel + 1, _, hA, hf, hg, hB => by
    obtain ⟨k, hk, he⟩ := hexRun_stop g (hg g (by simp)) (58 :: (joinC (g2 :: r) ++ 58 :: 58 :: joinC B)) (Or.inr ⟨_, rfl⟩)
    have ih := p6_mid (g2 :: r) (A ++ [g]) B fuel (by simp) (by simp at hA ⊢; omega) (by simp at hf ⊢; omega) (fun x hx => hg x (List.mem_cons_of_mem _ hx)) hB
    rw [joinC, List.append_assoc, List.cons_append, p6, if_neg (by simp at hA; omega), he]
    obtain ⟨d, t, hd, hj⟩ := joinC_head g2 r
    rw [hj, List.cons_append] at ih ⊢
    simp only
    rw [if_neg hk, if_neg (by decide), if_neg (hexDig_ne d hd), ih]
    simp; omega
  | _ :: _, _, _, 0, _, _, h, _, _ => by simp at h
theorem joinC_take2 (gs : List Nat) (t : List UInt8) (h : gs ≠ []) : (joinC gs ++ t).take 2 ≠ [58, 58] := by
  cases gs with
  | nil => exact absurd rfl h
  | cons g r =>
    obtain ⟨d, u, hd, hj⟩ := joinC_head g r
    rw [hj]
    intro hc
    have : (hexDig d).toNat = 58 := by simp at hc; rw [hc.1]; rfl
    exact hexDig_ne d hd this
/-- What is written is read back. -/
theorem parse6_fmt6 (gs : List Nat) (fr to : Nat) (h8 : gs.length = 8) (hg : ∀ g ∈ gs, g < 65536)
    (hft : fr = 255 ∨ (fr + 2 ≤ to ∧ to ≤ 8 ∧ ∀ j, fr ≤ j → j < to → gs[j]? = some 0)) : parse6 (fmt6 gs fr to) = some gs := by
  by_cases hf : fr = 255
  · rw [fmt6, if_pos hf, parse6]
    have h2 := joinC_take2 gs [] (by intro h; rw [h] at h8; simp at h8)
    rw [List.append_nil] at h2
    rw [if_neg h2, p6_join gs [] none 9 (by intro h; rw [h] at h8; simp at h8) (by simp; omega) (by omega) hg]
    show expand (gs, none) = some gs
    rw [expand, if_pos h8]
  · obtain ⟨h1, h2, h3⟩ := hft.resolve_left hf
    have hrep : (gs.drop fr).take (to - fr) = List.replicate (to - fr) 0 := by
      apply List.ext_getElem?
      intro j
      rw [List.getElem?_take, List.getElem?_replicate]
      split
      · rw [List.getElem?_drop, h3 _ (by omega) (by omega)]
      · rfl
    have hsum : gs = gs.take fr ++ (List.replicate (to - fr) 0 ++ gs.drop to) := by
      rw [← hrep]
      have : (gs.drop fr).drop (to - fr) = gs.drop to := by rw [List.drop_drop]; congr 1; omega
      rw [← this, List.take_append_drop, List.take_append_drop]
    have hl1 : (gs.take fr).length = fr := by simp; omega
    have hl2 : (gs.drop to).length = 8 - to := by simp; omega
    have he : expand (gs.take fr ++ gs.drop to, some fr) = some gs := by
      rw [expand, if_pos (by rw [List.length_append, hl1, hl2]; omega), List.length_append, hl1, hl2]
      rw [List.take_append_of_le_length (by omega), List.take_of_length_le (by omega), List.drop_append_of_le_length (by omega), List.drop_of_length_le (by omega), List.nil_append]
      rw [show 8 - (fr + (8 - to)) = to - fr by omega, List.append_assoc, ← hsum]
    rw [fmt6, if_neg hf, parse6]
    cases hL : gs.take fr with
    | nil =>
      have hfr : fr = 0 := by rw [hL] at hl1; simpa using hl1.symm
      rw [joinC, List.nil_append, if_pos (by simp)]
      have e2 : ([58, 58] ++ joinC (gs.drop to)).drop 2 = joinC (gs.drop to) := rfl
      rw [e2]
      cases hD : gs.drop to with
      | nil =>
        rw [joinC, if_pos rfl]
        rw [hL, hD] at hsum
        have : to = 8 := by rw [hD] at hl2; simp at hl2; omega
        rw [hsum]; simp [this, hfr]
      | cons b B =>
        obtain ⟨d, u, hd, hj⟩ := joinC_head b B
        rw [if_neg (by rw [hj]; simp), ← hD, p6_join (gs.drop to) [] _ 9 (by rw [hD]; simp) (by rw [hl2]; simp) (by omega) (fun g h => hg g (List.mem_of_mem_drop h))]
        show expand ([] ++ gs.drop to, some 0) = some gs
        rw [hL, hfr] at he
        exact he
    | cons a A =>
      rw [List.append_assoc, if_neg (joinC_take2 _ _ (by simp)), ← hL]
      have := p6_mid (gs.take fr) [] (gs.drop to) 9 (by rw [hL]; simp) (by rw [hl1, hl2]; simp; omega) (by rw [hl1, hl2]; omega) (fun g h => hg g (List.mem_of_mem_take h)) (fun g h => hg g (List.mem_of_mem_drop h))
      rw [show [58, 58] ++ joinC (gs.drop to) = 58 :: 58 :: joinC (gs.drop to) from rfl, this]
      show expand ([] ++ gs.take fr ++ gs.drop to, some (0 + (gs.take fr).length)) = some gs
      rw [List.nil_append, Nat.zero_add, hl1]
      exact he
theorem joinC_snoc : ∀ (l : List Nat) (g : Nat), joinC (l ++ [g]) = if l = [] then hexs g else joinC l ++ 58 :: hexs g
  | [], g => by simp [joinC]
  | [a], g => by simp [joinC]
  | a :: b :: r, g => by
    have := joinC_snoc (b :: r) g
    rw [if_neg (by simp)] at this
    rw [if_neg (by simp)]
    show hexs a ++ 58 :: joinC ((b :: r) ++ [g]) = _
    rw [this, joinC]; simp
theorem joinC_chars : ∀ (l : List Nat), ∀ x ∈ joinC l, (∃ d, d < 16 ∧ x = hexDig d) ∨ x = 58
  | [] => by simp [joinC]
  | [g] => fun x hx => Or.inl (hexs_mem g x (by simpa [joinC] using hx))
  | a :: b :: r => fun x hx => by
    rw [joinC] at hx
    rcases List.mem_append.1 hx with hx | hx
    · exact Or.inl (hexs_mem a x hx)
    · rcases List.mem_cons.1 hx with rfl | hx
      · exact Or.inr rfl
      · exact joinC_chars (b :: r) x hx
theorem fmt6_chars (gs : List Nat) (fr to : Nat) : ∀ x ∈ fmt6 gs fr to, (∃ d, d < 16 ∧ x = hexDig d) ∨ x = 58 := by
  intro x hx
  rw [fmt6] at hx
  split at hx
  · exact joinC_chars _ x hx
  · simp only [List.mem_append] at hx
    rcases hx with (hx | hx) | hx
    · exact joinC_chars _ x hx
    · exact Or.inr (by simpa using hx)
    · exact joinC_chars _ x hx
theorem fmt6_colon (gs : List Nat) (fr to : Nat) (h8 : gs.length = 8) : (58 : UInt8) ∈ fmt6 gs fr to := by
  rw [fmt6]
  split
  · match gs, h8 with
    | a :: b :: r, _ => rw [joinC]; simp
  · simp
theorem joinC_len : ∀ (l : List Nat), (∀ g ∈ l, g < 65536) → (joinC l).length ≤ 5 * l.length
  | [], _ => by simp [joinC]
  | [g], h => by
    have := hexs_len 3 g (by simpa using h)
    rw [joinC]; simp; omega
  | a :: b :: r, h => by
    have h1 := hexs_len 3 a (by simpa using h a (by simp))
    have h2 := joinC_len (b :: r) (fun g hg => h g (List.mem_cons_of_mem _ hg))
    rw [joinC]; simp at h2 ⊢; omega
theorem fmt6_len (gs : List Nat) (fr to : Nat) (h8 : gs.length = 8) (h : ∀ g ∈ gs, g < 65536) : (fmt6 gs fr to).length ≤ 82 := by
  rw [fmt6]
  split
  · have := joinC_len gs h; omega
  · have h1 := joinC_len (gs.take fr) (fun g hg => h g (List.mem_of_mem_take hg))
    have h2 := joinC_len (gs.drop to) (fun g hg => h g (List.mem_of_mem_drop hg))
    simp at h1 h2 ⊢; omega
/-- The bytes of groups. -/
def groupBytes : List Nat → List Nat
  | [] => []
  | g :: r => g / 256 :: g % 256 :: groupBytes r
theorem groupBytes_len : ∀ l : List Nat, (groupBytes l).length = 2 * l.length
  | [] => rfl
  | g :: r => by simp [groupBytes, groupBytes_len r]; omega
end Go.Proofs.YtnpcmmjdojdmnaaGreatDoor
namespace Go.Proofs.YtnpcmmjdojdmnaaGreatDoor
open Go Go.RowKit

/-- A digit's value, -1 for none. -/
def digI (c : UInt8) : Int := match hexVal c with | some d => d | none => -1
theorem digI_none {c : UInt8} (h : hexVal c = none) : digI c = -1 := by rw [digI, h]
theorem digI_some {c : UInt8} {d : Nat} (h : hexVal c = some d) : digI c = d := by rw [digI, h]
theorem hexVal_lt {c : UInt8} {d : Nat} (h : hexVal c = some d) : d < 16 := by
  unfold hexVal at h
  split at h
  · have := Option.some.inj h; omega
  · split at h
    · have := Option.some.inj h; omega
    · split at h
      · have := Option.some.inj h; omega
      · cases h

set_option maxRecDepth 100000 in
set_option maxHeartbeats 4000000 in
theorem zzDigit (c : UInt8) (w : World) : Calls Tryz.prog 388 #[.int .u8 c.toNat] w fun e w' => e = .returned (.int .i64 (digI c)) ∧ w = w' := by
  have hx := c.toNat_lt
  generalize hr : digI c = r
  unfold digI hexVal at hr
  generalize c.toNat = n at *
  have HR := Lib.hid hr; clear hr
  by_cases a1 : 48 ≤ n
  · by_cases a2 : n ≤ 57
    · have e1 : decide (48 ≤ (n : Int)) = true := by simp; omega
      have e2 : decide ((n : Int) ≤ 57) = true := by simp; omega
      have q : IntKind.u8.wrap ((n : Int) - 48) = (n : Int) - 48 := IntWalk.u8_in _ (by omega)
      have q2 : IntKind.i64.wrap ((n : Int) - 48) = (n : Int) - 48 := IntWalk.i64_in _ (by omega)
      have hf : (n : Int) - 48 = r := by have := HR.out; rw [if_pos ⟨a1, a2⟩] at this; simp only at this; omega
      have HF := Lib.hid hf; clear hf a1 a2
      go_enter Tryz.func388, Tryz.ntmps388
      go_wp2
      go_ret
      exact ⟨ret_int HF.out, rfl⟩
    · have e1 : decide (48 ≤ (n : Int)) = true := by simp; omega
      have e2 : decide ((n : Int) ≤ 57) = false := by simp; omega
      by_cases b1 : 97 ≤ n
      · by_cases b2 : n ≤ 102
        · have e3 : decide (97 ≤ (n : Int)) = true := by simp; omega
          have e4 : decide ((n : Int) ≤ 102) = true := by simp; omega
          have q : IntKind.u8.wrap ((n : Int) - 97) = (n : Int) - 97 := IntWalk.u8_in _ (by omega)
          have q2 : IntKind.i64.wrap ((n : Int) - 97) = (n : Int) - 97 := IntWalk.i64_in _ (by omega)
          have q3 : IntKind.i64.wrap ((n : Int) - 97 + 10) = (n : Int) - 97 + 10 := IntWalk.i64_in _ (by omega)
          have hf : (n : Int) - 97 + 10 = r := by have := HR.out; rw [if_neg (by omega), if_pos ⟨b1, b2⟩] at this; simp only at this; omega
          have HF := Lib.hid hf; clear hf a1 a2 b1 b2
          go_enter Tryz.func388, Tryz.ntmps388
          go_wp2
          go_ret
          exact ⟨ret_int HF.out, rfl⟩
        · have e3 : decide (97 ≤ (n : Int)) = true := by simp; omega
          have e4 : decide ((n : Int) ≤ 102) = false := by simp; omega
          have e5 : decide (65 ≤ (n : Int)) = true := by simp; omega
          have e6 : decide ((n : Int) ≤ 70) = false := by simp; omega
          have hf : (-1 : Int) = r := by have := HR.out; rw [if_neg (by omega), if_neg (by omega), if_neg (by omega)] at this; exact this
          have HF := Lib.hid hf; clear hf a1 a2 b1 b2
          go_enter Tryz.func388, Tryz.ntmps388
          go_wp2
          go_ret
          exact ⟨ret_int HF.out, rfl⟩
      · have e3 : decide (97 ≤ (n : Int)) = false := by simp; omega
        by_cases c1 : 65 ≤ n
        · by_cases c2 : n ≤ 70
          · have e5 : decide (65 ≤ (n : Int)) = true := by simp; omega
            have e6 : decide ((n : Int) ≤ 70) = true := by simp; omega
            have q : IntKind.u8.wrap ((n : Int) - 65) = (n : Int) - 65 := IntWalk.u8_in _ (by omega)
            have q2 : IntKind.i64.wrap ((n : Int) - 65) = (n : Int) - 65 := IntWalk.i64_in _ (by omega)
            have q3 : IntKind.i64.wrap ((n : Int) - 65 + 10) = (n : Int) - 65 + 10 := IntWalk.i64_in _ (by omega)
            have hf : (n : Int) - 65 + 10 = r := by have := HR.out; rw [if_neg (by omega), if_neg (by omega), if_pos ⟨c1, c2⟩] at this; simp only at this; omega
            have HF := Lib.hid hf; clear hf a1 a2 b1 c1 c2
            go_enter Tryz.func388, Tryz.ntmps388
            go_wp2
            go_ret
            exact ⟨ret_int HF.out, rfl⟩
          · have e5 : decide (65 ≤ (n : Int)) = true := by simp; omega
            have e6 : decide ((n : Int) ≤ 70) = false := by simp; omega
            have hf : (-1 : Int) = r := by have := HR.out; rw [if_neg (by omega), if_neg (by omega), if_neg (by omega)] at this; exact this
            have HF := Lib.hid hf; clear hf a1 a2 b1 c1 c2
            go_enter Tryz.func388, Tryz.ntmps388
            go_wp2
            go_ret
            exact ⟨ret_int HF.out, rfl⟩
        · have e5 : decide (65 ≤ (n : Int)) = false := by simp; omega
          have hf : (-1 : Int) = r := by have := HR.out; rw [if_neg (by omega), if_neg (by omega), if_neg (by omega)] at this; exact this
          have HF := Lib.hid hf; clear hf a1 a2 b1 c1
          go_enter Tryz.func388, Tryz.ntmps388
          go_wp2
          go_ret
          exact ⟨ret_int HF.out, rfl⟩
  · have e1 : decide (48 ≤ (n : Int)) = false := by simp; omega
    have e3 : decide (97 ≤ (n : Int)) = false := by simp; omega
    have e5 : decide (65 ≤ (n : Int)) = false := by simp; omega
    have hf : (-1 : Int) = r := by have := HR.out; rw [if_neg (by omega), if_neg (by omega), if_neg (by omega)] at this; exact this
    have HF := Lib.hid hf; clear hf a1
    go_enter Tryz.func388, Tryz.ntmps388
    go_wp2
    go_ret
    exact ⟨ret_int HF.out, rfl⟩

theorem i64_ofInt (a : Nat) (ha : a < 9223372036854775808) : (BitVec.ofInt 64 (a : Int)).toNat = a := by
  rw [BitVec.ofInt_natCast, BitVec.toNat_ofNat]; exact Nat.mod_eq_of_lt (by omega)
theorem i64_and_nat (a b : Nat) (ha : a < 9223372036854775808) (hb : b < 9223372036854775808) : bits .and .i64 (a : Int) (b : Int) = ((a &&& b : Nat) : Int) := by
  have hx : a &&& b < 2 ^ 63 := Nat.and_lt_two_pow _ (by omega)
  show IntKind.i64.wrap ((BitVec.ofInt 64 (a : Int) &&& BitVec.ofInt 64 (b : Int)).toNat : Int) = _
  rw [BitVec.toNat_and, i64_ofInt a ha, i64_ofInt b hb]
  exact IntWalk.i64_in _ (by omega)
theorem i64_or_nat (a b : Nat) (ha : a < 9223372036854775808) (hb : b < 9223372036854775808) : bits .or .i64 (a : Int) (b : Int) = ((a ||| b : Nat) : Int) := by
  have hx : a ||| b < 2 ^ 63 := Nat.or_lt_two_pow (by omega) (by omega)
  show IntKind.i64.wrap ((BitVec.ofInt 64 (a : Int) ||| BitVec.ofInt 64 (b : Int)).toNat : Int) = _
  rw [BitVec.toNat_or, i64_ofInt a ha, i64_ofInt b hb]
  exact IntWalk.i64_in _ (by omega)
theorem and15 (m : Nat) (h : m < 9223372036854775808) : bits .and .i64 (m : Int) 15 = ((m % 16 : Nat) : Int) := by
  have := i64_and_nat m 15 h (by decide)
  rw [show ((15 : Nat) : Int) = 15 from rfl] at this
  rw [this, show (15 : Nat) = 2 ^ 4 - 1 from rfl, Nat.and_two_pow_sub_one_eq_mod]

/-- The sixteen digits. -/
abbrev hexTab : ByteArray := ⟨#[48, 49, 50, 51, 52, 53, 54, 55, 56, 57, 97, 98, 99, 100, 101, 102]⟩
theorem hexTab_at (d : Nat) (h : d < 16) : hexTab.extract d (d + 1) = ⟨#[hexDig d]⟩ := by
  have : ∀ d : Fin 16, (hexTab.extract d.val (d.val + 1)).data.toList = [hexDig d.val] := by decide
  have := this ⟨d, h⟩
  apply ByteArray.ext
  apply Array.toList_inj.1
  exact this

set_option maxRecDepth 100000 in
set_option maxHeartbeats 4000000 in
theorem zzHex (n : Nat) (hn : n < 65536) (w : World) : Calls Tryz.prog 160 #[.int .i64 n] w fun e w' => e = .returned (.string ⟨(hexs n).toArray⟩) ∧ w = w' := by
  have HN := Lib.hid hn
  have HL := Lib.hid (hexs_len 3 n (by simpa using hn)); clear hn
  go_enter Tryz.func160, Tryz.ntmps160
  go_wp2
  go_loop [0, 3, 4] (fun v0 v3 v4 => ∃ (m : Nat) (t : ByteArray) (ok : Bool), v0 = .int .i64 m ∧ v3 = .string t ∧ v4 = .bool ok ∧ m < 65536 ∧ Hid (hexs n = (if ok = true then hexs m else []) ++ t.data.toList))
    (fun v0 _ v4 => 2 * (intOf v0).toNat + (match v4 with | .bool true => 1 | _ => 0))
  case atStart => exact ⟨n, ⟨#[]⟩, true, rfl, rfl, rfl, HN.out, Lib.hid (by simp)⟩
  case round =>
    obtain ⟨m, t, ok, rfl, rfl, rfl, hm, he⟩ := hrel
    cases ok with
    | false =>
      have HT : Hid (t = ⟨(hexs n).toArray⟩) := Lib.hid (by
        have := he.out
        simp at this
        rw [this])
      clear he
      go_wp2
      go_ret
      exact ⟨congrArg (fun z => Ending.returned (.string z)) HT.out, rfl⟩
    | true =>
      have e1 := and15 m (by omega)
      have hd : m % 16 < 16 := by omega
      have hsz : t.size ≤ 4 := by
        have h := HL.out
        rw [he.out, List.length_append] at h
        have : t.data.toList.length = t.size := Array.length_toList
        omega
      have HX := Lib.hid (hexTab_at (m % 16) hd)
      generalize hq : m % 16 = d at *
      have q1 : IntKind.i64.wrap ((d : Int) + 1) = ((d + 1 : Nat) : Int) := by rw [IntWalk.i64_in _ (by omega)]; omega
      have HQ := Lib.hid hq; clear hq
      go_wp2
      refine ⟨⟨m / 16, ⟨#[hexDig d]⟩ ++ t, decide (0 < m / 16), by simp, congrArg Value.string (congrArg (· ++ t) HX.out), ?_, by omega, Lib.hid ?_⟩, ?_⟩
      · congr 1
        exact decide_eq_decide.2 (by omega)
      · have h := he.out
        rw [if_pos rfl] at h
        rw [h]
        have e3 : ((⟨#[hexDig d]⟩ : ByteArray) ++ t).data.toList = hexDig d :: t.data.toList := by
          rw [ByteArray.data_append, Array.toList_append]; rfl
        rw [e3]
        by_cases h16 : m < 16
        · have h0 : m / 16 = 0 := by omega
          have hdm : d = m := by rw [← HQ.out]; omega
          rw [hexs, if_pos h16, h0, hdm]; rfl
        · rw [hexs, if_neg h16, HQ.out, if_pos (by simp; omega)]; simp
      · have : (intOf (Value.int IntKind.i64 (m / 16))).toNat = m / 16 := by simp [intOf]; omega
        rw [this]
        have : (intOf (Value.int IntKind.i64 m)).toNat = m := by simp [intOf]
        rw [this]
        by_cases h0 : 0 < m / 16
        · have : decide (0 < (m : Int) / 16) = true := by simp; omega
          rw [this]; simp only; omega
        · have : decide (0 < (m : Int) / 16) = false := by simp; omega
          rw [this]; simp only; omega
end Go.Proofs.YtnpcmmjdojdmnaaGreatDoor
namespace Go.Proofs.YtnpcmmjdojdmnaaGreatDoor
open Go Go.RowKit

/-- Bytes as the cells of an array. -/
def cellsArr (l : List Nat) : Array Value := (l.map fun x => Value.int .u8 (x : Nat)).toArray
theorem cellsArr_size (l : List Nat) : (cellsArr l).size = l.length := by simp [cellsArr]
theorem cellsArr_set (l : List Nat) (i v : Nat) : (cellsArr l).setIfInBounds i (.int .u8 v) = cellsArr (l.set i v) := by
  simp [cellsArr, List.map_set]
theorem cellsArr_get (l : List Nat) (i : Nat) : (cellsArr l)[i]? = l[i]?.map fun x => Value.int .u8 (x : Nat) := by simp [cellsArr]
theorem cellsArr_one (l : List Nat) : (cellsArr l).all (·.oneCell') = true := by
  simp [cellsArr, Value.oneCell']
theorem size219 : (Tryz.prog.info? 219).map (·.size) = some 16 := by kernel_rfl

/-- The first bytes are those of the groups, the others 0. -/
def padB (gs : List Nat) : List Nat := groupBytes gs ++ List.replicate (16 - 2 * gs.length) 0
theorem padB_len (gs : List Nat) (h : gs.length ≤ 8) : (padB gs).length = 16 := by
  simp [padB, groupBytes_len]; omega
theorem groupBytes_append : ∀ (a b : List Nat), groupBytes (a ++ b) = groupBytes a ++ groupBytes b
  | [], _ => rfl
  | g :: r, b => by simp [groupBytes, groupBytes_append r b]
theorem padB_snoc (gs : List Nat) (g : Nat) (h : gs.length < 8) : ((padB gs).set (2 * gs.length) (g / 256)).set (2 * gs.length + 1) (g % 256) = padB (gs ++ [g]) := by
  have hl := groupBytes_len gs
  obtain ⟨k, hk⟩ : ∃ k, 16 - 2 * gs.length = k + 2 := ⟨14 - 2 * gs.length, by omega⟩
  have hk2 : 16 - 2 * (gs ++ [g]).length = k := by simp; omega
  rw [padB, padB, hk, hk2, groupBytes_append, ← hl, List.set_append_right _ _ (Nat.le_refl _), Nat.sub_self, List.set_append_right _ _ (by omega)]
  rw [show (groupBytes gs).length + 1 - (groupBytes gs).length = 1 by omega]
  simp [List.replicate_succ, groupBytes]

/-- Where the ellipsis stands, as a number. -/
def ellI : Option Nat → Int | none => -1 | some e => (2 * e : Nat)

theorem hexRun_step {acc off : Nat} {l : List UInt8} {r : Nat × Nat × List UInt8} (h : hexRun acc off l = some r) :
    (l = [] ∧ r = (acc, off, [])) ∨ (∃ x t, l = x :: t ∧ hexVal x = none ∧ r = (acc, off, x :: t)) ∨ (∃ x t d, l = x :: t ∧ hexVal x = some d ∧ off ≤ 3 ∧ hexRun (acc * 16 + d) (off + 1) t = some r) := by
  cases l with
  | nil => rw [hexRun] at h; exact Or.inl ⟨rfl, (Option.some.inj h).symm⟩
  | cons x t =>
    rw [hexRun] at h
    cases hx : hexVal x with
    | none => rw [hx] at h; exact Or.inr (Or.inl ⟨x, t, rfl, hx, (Option.some.inj h).symm⟩)
    | some d =>
      rw [hx] at h
      simp only at h
      split at h
      · cases h
      · exact Or.inr (Or.inr ⟨x, t, d, rfl, hx, by omega, h⟩)

theorem drop_get (s : ByteArray) (k : Nat) (h : k < s.size) : s.data.toList.drop k = s[k] :: s.data.toList.drop (k + 1) := by
  rw [List.drop_eq_getElem_cons (by rw [Array.length_toList]; exact h)]; rfl
theorem extract_list (s : ByteArray) (k : Nat) : (s.extract k s.size).data.toList = s.data.toList.drop k := by
  rw [ByteArray.data_extract, Array.toList_extract, List.extract_eq_take_drop, List.take_of_length_le]
  rw [List.length_drop, Array.length_toList]; exact Nat.le_refl _

theorem p6_step {fuel : Nat} {l : List UInt8} {gs : List Nat} {ell : Option Nat} {res : List Nat} (h : (p6 fuel l gs ell).bind expand = some res) (hg : gs.length < 8) :
    ∃ acc off rest f, hexRun 0 0 l = some (acc, off, rest) ∧ off ≠ 0 ∧
      ((rest = [] ∧ expand (gs ++ [acc], ell) = some res) ∨
       (∃ c c2 r2, rest = c :: c2 :: r2 ∧ c.toNat = 58 ∧
         ((c2.toNat ≠ 58 ∧ (p6 f (c2 :: r2) (gs ++ [acc]) ell).bind expand = some res) ∨
          (c2.toNat = 58 ∧ ell = none ∧ r2 = [] ∧ expand (gs ++ [acc], some (gs.length + 1)) = some res) ∨
          (c2.toNat = 58 ∧ ell = none ∧ r2 ≠ [] ∧ (p6 f r2 (gs ++ [acc]) (some (gs.length + 1))).bind expand = some res)))) := by
  cases fuel with
  | zero => rw [p6] at h; cases h
  | succ f =>
    rw [p6, if_neg (by omega)] at h
    cases hr : hexRun 0 0 l with
    | none => rw [hr] at h; cases h
    | some x =>
      obtain ⟨acc, off, rest⟩ := x
      rw [hr] at h
      simp only at h
      by_cases h0 : off = 0
      · rw [if_pos h0] at h; cases h
      rw [if_neg h0] at h
      refine ⟨acc, off, rest, f, rfl, h0, ?_⟩
      match rest, h with
      | [], h => exact Or.inl ⟨rfl, h⟩
      | [_], h => cases h
      | c :: c2 :: r2, h =>
        refine Or.inr ⟨c, c2, r2, rfl, ?_⟩
        simp only at h
        by_cases hc : c.toNat ≠ 58
        · rw [if_pos hc] at h; cases h
        rw [if_neg hc] at h
        refine ⟨by simpa using hc, ?_⟩
        by_cases hc2 : c2.toNat = 58
        · rw [if_pos hc2] at h
          cases ell with
          | some e => simp at h
          | none =>
            simp only [Option.isSome_none, Bool.false_eq_true, if_false] at h
            by_cases hr2 : r2 = []
            · rw [if_pos hr2] at h; exact Or.inr (Or.inl ⟨hc2, rfl, hr2, h⟩)
            · rw [if_neg hr2] at h; exact Or.inr (Or.inr ⟨hc2, rfl, hr2, h⟩)
        · rw [if_neg hc2] at h; exact Or.inl ⟨hc2, h⟩
theorem p6_full {fuel : Nat} {l : List UInt8} {gs : List Nat} {ell : Option Nat} {res : List Nat} (h : (p6 fuel l gs ell).bind expand = some res) (hg : gs.length = 8) :
    l = [] ∧ ell = none ∧ gs = res := by
  cases fuel with
  | zero => rw [p6] at h; cases h
  | succ f =>
    rw [p6, if_pos (by omega)] at h
    by_cases hl : l = []
    · rw [if_pos hl] at h
      cases ell with
      | none =>
        have h2 : expand (gs, none) = some res := h
        rw [expand, if_pos hg] at h2
        exact ⟨hl, rfl, Option.some.inj h2⟩
      | some e =>
        have h2 : expand (gs, some e) = some res := h
        rw [expand, if_neg (by omega)] at h2
        cases h2
    · rw [if_neg hl] at h; cases h
theorem expand_cases {gs : List Nat} {ell : Option Nat} {res : List Nat} (h : expand (gs, ell) = some res) :
    (ell = none ∧ gs.length = 8 ∧ gs = res) ∨ (∃ e, ell = some e ∧ gs.length < 8 ∧ res = gs.take e ++ List.replicate (8 - gs.length) 0 ++ gs.drop e) := by
  cases ell with
  | none =>
    rw [expand] at h
    split at h
    · rename_i h8; exact Or.inl ⟨rfl, h8, Option.some.inj h⟩
    · cases h
  | some e =>
    rw [expand] at h
    split at h
    · rename_i h8; exact Or.inr ⟨e, rfl, h8, (Option.some.inj h).symm⟩
    · cases h

theorem drop_cons {s : ByteArray} {k : Nat} {c : UInt8} {r : List UInt8} (h : s.data.toList.drop k = c :: r) : ∃ hk : k < s.size, s[k] = c ∧ s.data.toList.drop (k + 1) = r := by
  by_cases hk : k < s.size
  · have := drop_get s k hk
    rw [h] at this
    obtain ⟨a, b⟩ := List.cons.inj this
    exact ⟨hk, a.symm, b.symm⟩
  · rw [List.drop_of_length_le (by rw [Array.length_toList]; show s.size ≤ k; omega)] at h; cases h
theorem size_drop (s : ByteArray) (k : Nat) : (s.extract k s.size).size = s.size - k := by rw [ByteArray.size_extract]; omega
theorem extract_get (s : ByteArray) (k : Nat) (h : k < s.size) : ∃ h' : 0 < (s.extract k s.size).size, (s.extract k s.size)[0] = s[k] := by
  have h1 : 0 < (s.extract k s.size).size := by rw [size_drop]; omega
  refine ⟨h1, ?_⟩
  have e1 := drop_get (s.extract k s.size) 0 h1
  rw [List.drop_zero, extract_list, drop_get s k h] at e1
  exact (List.cons.inj e1).1.symm
theorem list16 (L : List Nat) (h : L.length = 16) : ∃ m0 m1 m2 m3 m4 m5 m6 m7 m8 m9 ma mb mc md me mf, L = [m0, m1, m2, m3, m4, m5, m6, m7, m8, m9, ma, mb, mc, md, me, mf] := by
  match L, h with
  | [m0, m1, m2, m3, m4, m5, m6, m7, m8, m9, ma, mb, mc, md, me, mf], _ => exact ⟨_, _, _, _, _, _, _, _, _, _, _, _, _, _, _, _, rfl⟩
theorem shift_law (B L M : List Nat) (n E : Nat) (hn : B.length + n = 16) (hE : E ≤ B.length)
    (hL : ∀ k, k < 16 → L[k]? = if E + n ≤ k then (B ++ List.replicate n 0)[k - n]? else (B ++ List.replicate n 0)[k]?)
    (hM : ∀ k, k < 16 → M[k]? = if E ≤ k ∧ k < E + n then some 0 else L[k]?) (hM16 : M.length = 16) : M = B.take E ++ List.replicate n 0 ++ B.drop E := by
  apply List.ext_getElem?
  intro k
  by_cases hk : k < 16
  · rw [hM k hk]
    by_cases h1 : E ≤ k ∧ k < E + n
    · rw [if_pos h1, List.append_assoc, List.getElem?_append_right (by simp; omega), List.getElem?_append_left (by simp; omega), List.getElem?_replicate, if_pos (by simp; omega)]
    · rw [if_neg h1, hL k hk]
      by_cases h2 : E + n ≤ k
      · rw [if_pos h2, List.getElem?_append_left (by omega), List.getElem?_append_right (by simp; omega), List.getElem?_drop]
        congr 1; simp; omega
      · rw [if_neg h2, List.getElem?_append_left (by omega), List.append_assoc, List.getElem?_append_left (by simp; omega), List.getElem?_take, if_pos (by omega)]
  · rw [List.getElem?_eq_none (by omega), List.getElem?_eq_none (by simp; omega)]
theorem groupBytes_take : ∀ (l : List Nat) (e : Nat), groupBytes (l.take e) = (groupBytes l).take (2 * e)
  | [], e => by simp [groupBytes]
  | g :: r, 0 => by simp [groupBytes]
  | g :: r, e + 1 => by
    rw [List.take_succ_cons, groupBytes, groupBytes, groupBytes_take r e, show 2 * (e + 1) = 2 * e + 1 + 1 by omega, List.take_succ_cons, List.take_succ_cons]
theorem groupBytes_drop : ∀ (l : List Nat) (e : Nat), groupBytes (l.drop e) = (groupBytes l).drop (2 * e)
  | [], e => by simp [groupBytes]
  | g :: r, 0 => by simp [groupBytes]
  | g :: r, e + 1 => by
    rw [List.drop_succ_cons, groupBytes, groupBytes_drop r e, show 2 * (e + 1) = 2 * e + 1 + 1 by omega, List.drop_succ_cons, List.drop_succ_cons]
theorem groupBytes_zeros : ∀ n : Nat, groupBytes (List.replicate n 0) = List.replicate (2 * n) 0
  | 0 => rfl
  | n + 1 => by rw [List.replicate_succ, groupBytes, groupBytes_zeros n, show 2 * (n + 1) = 2 * n + 1 + 1 by omega, List.replicate_succ, List.replicate_succ]
theorem groupBytes_expand {gs res : List Nat} {e : Nat} (h8 : gs.length ≤ 8) (hr : res = gs.take e ++ List.replicate (8 - gs.length) 0 ++ gs.drop e) :
    groupBytes res = (groupBytes gs).take (2 * e) ++ List.replicate (16 - 2 * gs.length) 0 ++ (groupBytes gs).drop (2 * e) := by
  rw [hr, groupBytes_append, groupBytes_append, groupBytes_take, groupBytes_drop, groupBytes_zeros]
  congr 3; omega
theorem groupBytes_len8 {gs res : List Nat} {ell : Option Nat} (h : expand (gs, ell) = some res) (he : ∀ e, ell = some e → e ≤ gs.length) : res.length = 8 := by
  rcases expand_cases h with ⟨_, h8, rfl⟩ | ⟨e, h1, h8, rfl⟩
  · exact h8
  · have := he e h1
    simp; omega

theorem results340 (tmps : Array Value) (w : World) (g : Nat) (cs : Array Value) (hp : tmps.getD 2 undef = .pointer (some ⟨g, 0, none⟩)) (h3 : tmps.getD 3 undef = .bool true) (hg : w.heap[g]? = some (.cells cs 219 (0, 0)))
    (hi : (Tryz.prog.info? 219).map (·.size) = some cs.size) : (results Tryz.f340 tmps).run Tryz.prog w = .ok (.tuple #[.agg cs, .bool true]) w := by
  have hp' : tmps[2]?.getD undef = .pointer (some ⟨g, 0, none⟩) := by simpa using hp
  have h3' : tmps[3]?.getD undef = .bool true := by simpa using h3
  simp [results, Tryz.results340, hp', h3', asAddr, run_loadVar_row w g 219 219 cs (0, 0) _ hg Tryz.underlying219 rfl hi]
theorem below_setRow {B : Nat} {a w : World} (h : Below B a w) {g : Nat} (hg : B ≤ g) (cs : Array Value) : Below B a (w.setRow g cs) :=
  h.trans ⟨rfl, rfl, rfl, by rw [setRow_size]; exact Nat.le_refl _, fun k hk => setRow_other w g k cs (by omega)⟩
theorem head_cons {b : ByteArray} {c : UInt8} {r : List UInt8} (h : b.data.toList = c :: r) : ∃ hp : 0 < b.size, b[0] = c ∧ b.size = r.length + 1 := by
  obtain ⟨hp, h0, _⟩ := drop_cons (s := b) (k := 0) (by rw [List.drop_zero]; exact h)
  refine ⟨hp, h0, ?_⟩
  have := congrArg List.length h
  rw [Array.length_toList] at this
  exact this
theorem head_nil {b : ByteArray} (h : b.data.toList = []) : b.size = 0 := by
  have := congrArg List.length h
  rw [Array.length_toList] at this
  exact this

set_option maxRecDepth 100000 in
set_option maxHeartbeats 16000000 in
theorem zzParse6_a (s : ByteArray) (res : List Nat) (hp : parse6 s.data.toList = some res) (h0 : 2 ≤ s.size) (h1 : s[0].toNat ≠ 58) (w : World) (hs : s.size ≤ 1000) :
    Calls Tryz.prog 340 #[.string s] w fun e w' => e = .returned (.tuple #[.agg (cellsArr (groupBytes res)), .bool true]) ∧ Below w.heap.size w w' := by
  have hq : (p6 9 s.data.toList [] none).bind expand = some res := by
    rw [parse6, if_neg] at hp
    · exact hp
    · intro hc
      have e := drop_get s 0 (by omega)
      rw [List.drop_zero] at e
      rw [e] at hc
      have : s[0] = 58 := by simp at hc; exact hc.1
      exact h1 (by rw [this]; rfl)
  have HP0 := Lib.hid hq; clear hp hq
  have g0 : decide (2 ≤ (s.size : Int)) = true := by simp; omega
  have g1 : ((s[0].toNat : Int) == 58) = false := by simp; omega
  clear h1
  go_enter Tryz.func340, Tryz.ntmps340
  go_wp2
  go_loopw [0, 5, 6] (fun v0 v5 v6 wr => ∃ (t : ByteArray) (gs : List Nat) (ell : Option Nat) (fuel : Nat) (i : Nat), v0 = .string t ∧ v5 = .int .i64 (ellI ell) ∧ v6 = .int .i64 i ∧ Hid (i = 2 * gs.length) ∧ i ≤ 16 ∧ t.size ≤ 1000 ∧ Hid (∀ e, ell = some e → e ≤ gs.length) ∧
      wr = (w.alloc (.cells (cellsArr [0, 0, 0, 0, 0, 0, 0, 0, 0, 0, 0, 0, 0, 0, 0, 0]) 219)).alloc (.cells (cellsArr (padB gs)) 219) ∧ Hid ((p6 fuel t.data.toList gs ell).bind expand = some res)) (fun _ _ v6 _ => 16 - (intOf v6).toNat)
  case atStart => exact ⟨s, [], none, 9, 0, rfl, rfl, rfl, Lib.hid rfl, by omega, hs, Lib.hid (fun _ h => by cases h), rfl, HP0⟩
  case round =>
    obtain ⟨t, gs, ell, fuel, i, rfl, rfl, rfl, hi, hi16, ht, hell, rfl, hq⟩ := hrel
    have hL16 : (padB gs).length = 16 := padB_len gs (by have := hi.out; omega)
    by_cases hlt : i < 16
    · obtain ⟨acc, off, rest, f, hr, hoff, hcase⟩ := p6_step hq.out (by have := hi.out; omega)
      have HC := Lib.hid hcase; clear hcase hq
      have HR := Lib.hid hr; clear hr
      have hi1 : i + 1 < 16 := by have := hi.out; omega
      have ci : decide ((i : Int) < 16) = true := by simp; omega
      have HP := Lib.hid (padB_snoc gs acc (by have := hi.out; omega))
      rw [← hi.out] at HP
      obtain ⟨x0, hx0⟩ : ∃ x0, (cellsArr (padB gs))[i]? = some (.int .u8 (x0 : Nat)) := by
        rw [cellsArr_get, List.getElem?_eq_getElem (by omega)]; exact ⟨_, rfl⟩
      obtain ⟨x1, hx1⟩ : ∃ x1, (cellsArr (padB gs))[i + 1]? = some (.int .u8 (x1 : Nat)) := by
        rw [cellsArr_get, List.getElem?_eq_getElem (by omega)]; exact ⟨_, rfl⟩
      go_wp2
      go_loop [7, 8] (fun v7 v8 => ∃ o a : Nat, v7 = .int .i64 o ∧ v8 = .int .i64 a ∧ o ≤ 4 ∧ o ≤ t.size ∧ Hid (a < 16 ^ o) ∧ Hid (hexRun a o (t.data.toList.drop o) = some (acc, off, rest))) (fun v7 _ => 5 - (intOf v7).toNat)
      case atStart => exact ⟨0, 0, rfl, rfl, by omega, by omega, Lib.hid (by decide), by rw [List.drop_zero]; exact HR⟩
      case round =>
        obtain ⟨o, a, rfl, rfl, ho4, hot, hpow, hrun⟩ := hrel
        have ha : a < 65536 := Nat.lt_of_lt_of_le hpow.out (Nat.pow_le_pow_right (by decide : 16 > 0) ho4)
        by_cases hlt2 : o < t.size
        · have hst := hexRun_step hrun.out
          rw [drop_get t o hlt2] at hst
          rcases hst with ⟨h, _⟩ | ⟨x, u, h, hv, hres⟩ | ⟨x, u, d, h, hv, ho3, hnext⟩
          · cases h
          · obtain ⟨rfl, rfl⟩ := List.cons.inj h
            obtain ⟨rfl, rfl, hrest⟩ : a = acc ∧ o = off ∧ rest = t[o] :: t.data.toList.drop (o + 1) := by
              simp at hres; exact ⟨hres.1.symm, hres.2.1.symm, hres.2.2⟩
            clear hres
            rcases HC.out with ⟨h', _⟩ | ⟨c, c2, r2, hr2, hc58, hc⟩
            · rw [hrest] at h'; cases h'
            rw [hrest] at hr2
            obtain ⟨rfl, hdrop⟩ := List.cons.inj hr2
            have D : Hid (∀ wx, Calls Tryz.prog 388 #[.int .u8 58] wx fun e w' => e = .returned (.int .i64 (-1)) ∧ wx = w') := Lib.hid fun wx => by
              have := zzDigit t[o] wx
              rw [digI_none hv, hc58] at this
              exact this
            obtain ⟨bh, hbh⟩ : ∃ b, b = a / 256 := ⟨_, rfl⟩
            obtain ⟨bl, hbl⟩ : ∃ b, b = a % 256 := ⟨_, rfl⟩
            obtain ⟨k2, hk2⟩ : ∃ k, k = i + 2 := ⟨_, rfl⟩
            have w1 : IntKind.u8.wrap ((a : Int) / 256) = (bh : Int) := by rw [IntWalk.u8_in _ (by omega)]; omega
            have w2 : IntKind.u8.wrap (a : Int) = (bl : Int) := by rw [hbl]; simp [IntKind.wrap, IntKind.bits, IntKind.signed]
            have i1 : IntKind.i64.wrap ((i : Int) + 1) = (i : Int) + 1 := IntWalk.i64_in _ (by omega)
            have i2 : IntKind.i64.wrap ((i : Int) + 2) = (k2 : Int) := by rw [IntWalk.i64_in _ (by omega)]; omega
            have i3 : (i : Int) < 16 := by omega
            have i4 : (i : Int) + 1 < 16 := by omega
            have i5 : ((i : Int) + 1).toNat = i + 1 := by omega
            have hne : ¬ i = i + 1 := by omega
            have s1 : (cellsArr (padB gs)).setIfInBounds i (.int .u8 bh) = cellsArr ((padB gs).set i bh) := cellsArr_set _ _ _
            have s2 : (cellsArr ((padB gs).set i bh)).setIfInBounds (i + 1) (.int .u8 bl) = cellsArr (padB (gs ++ [a])) := by
              rw [cellsArr_set, ← HP.out, hbh, hbl]
            have s3 : (cellsArr ((padB gs).set i bh))[i + 1]? = some (.int .u8 x1) := by
              rw [cellsArr_get, List.getElem?_set_ne (by omega), ← cellsArr_get]; exact hx1
            have HK : Hid (k2 = 2 * (gs ++ [a]).length) := Lib.hid (by have := hi.out; simp; omega)
            have hk16 : k2 ≤ 16 := by omega
            have oz : ((o : Int) == 0) = false := by simp; omega
            have HK2 := Lib.hid hk2
            clear hbh hbl hx1 hrun hpow hk2
            obtain ⟨T1, hT1, l1⟩ : ∃ T, t.extract o t.size = T ∧ T.data.toList = t[o] :: c2 :: r2 := ⟨_, rfl, by rw [extract_list, drop_get t o hlt2, hdrop]⟩
            obtain ⟨g1, g2, g3⟩ := head_cons l1
            have y1 : T1[0].toNat = 58 := by rw [g2, hc58]
            have y2 : ((T1.size : Int) == 0) = false := by rw [beq_eq_false_iff_ne]; omega
            have y3 : ((T1.size : Int) == 1) = false := by rw [List.length_cons] at g3; rw [beq_eq_false_iff_ne]; omega
            have y4 : 1 ≤ (T1.size : Int) := by omega
            have y5 : t[o].toNat = 58 := hc58
            obtain ⟨T2, hT2, l2⟩ : ∃ T, T1.extract 1 T1.size = T ∧ T.data.toList = c2 :: r2 := ⟨_, rfl, by rw [extract_list, l1]; rfl⟩
            obtain ⟨g4, g5, g6⟩ := head_cons l2
            have y6 : 1 ≤ (T2.size : Int) := by omega
            obtain ⟨T3, hT3, l3⟩ : ∃ T, T2.extract 1 T2.size = T ∧ T.data.toList = r2 := ⟨_, rfl, by rw [extract_list, l2]; rfl⟩
            have HSZ : Hid (T2.size ≤ 1000 ∧ T3.size ≤ 1000) := Lib.hid (by
              have e1 := size_drop t o
              have e2 := size_drop T1 1
              have e3 := size_drop T2 1
              rw [hT1] at e1; rw [hT2] at e2; rw [hT3] at e3
              omega)
            have HL := Lib.hid (And.intro l2 l3)
            clear g3 l1 l2 hdrop hr2 hrest hv h HR hoff g2
            rcases hc with ⟨hn58, hnx⟩ | ⟨h58, rfl, rfl, hex⟩ | ⟨h58, rfl, hr0, hnx⟩
            · have y7 : ((T2[0].toNat : Int) == 58) = false := by rw [g5]; simp; omega
              clear g5 g6 l3 hT3 hc58
              go_wp2_with (go_at_call 388; with_reducible refine (D.out _).mono ?_; rintro e w2 ⟨rfl, rfl⟩)
              go_wp2
              have hk2 := HK2.out
              refine ⟨⟨T2, gs ++ [a], ell, f, k2, rfl, rfl, rfl, HK, hk16, HSZ.out.1, Lib.hid (fun e he => by have := hell.out e he; simp; omega), rfl, by rw [HL.out.1]; exact Lib.hid hnx⟩, by simp [intOf]; omega⟩
            · have y7 : T2[0].toNat = 58 := by rw [g5, h58]
              have z3 : T3.size = 0 := head_nil l3
              have he : ellI none = -1 := rfl
              obtain ⟨e, hee⟩ : ∃ e, e = gs.length + 1 := ⟨_, rfl⟩
              have HX : Hid (expand (gs ++ [a], some e) = some res) := by rw [hee]; exact Lib.hid hex
              have HE2 : Hid (e ≤ (gs ++ [a]).length) := Lib.hid (by rw [hee]; simp)
              have HEQ : Hid (k2 = 2 * e) := Lib.hid (by have := HK.out; rw [hee]; simpa using this)
              clear g5 g6 l3 hc58 h58 hex hee hell
              obtain ⟨hres, h8⟩ : res = (gs ++ [a]).take e ++ List.replicate (8 - (gs ++ [a]).length) 0 ++ (gs ++ [a]).drop e ∧ (gs ++ [a]).length < 8 := by
                rcases expand_cases HX.out with ⟨h, _⟩ | ⟨e', h1, h2, h3⟩
                · cases h
                · obtain rfl := Option.some.inj h1; exact ⟨h3, h2⟩
              have HG : Hid (groupBytes res = (groupBytes (gs ++ [a])).take (2 * e) ++ List.replicate (16 - 2 * (gs ++ [a]).length) 0 ++ (groupBytes (gs ++ [a])).drop (2 * e)) := Lib.hid (groupBytes_expand (by omega) hres)
              have hP16 : (padB (gs ++ [a])).length = 16 := padB_len _ (by omega)
              have hk3 : k2 < 16 := by have := HK.out; omega
              have hE : k2 = 2 * e := HEQ.out
              have hEk : k2 ≤ k2 := by have := HK.out; have := HE2.out; omega
              have HEE := Lib.hid hE
              obtain ⟨n, hn⟩ : ∃ n, k2 + n = 16 := ⟨16 - k2, by omega⟩
              obtain ⟨En, hEn⟩ : ∃ z, z = k2 + n := ⟨_, rfl⟩
              have c38 : decide ((k2 : Int) < 16) = true := by simp; omega
              have c39 : decide ((k2 : Int) < 0) = false := by simp
              have p1 : IntKind.i64.wrap (16 - (k2 : Int)) = (n : Int) := by rw [IntWalk.i64_in _ (by omega)]; omega
              have p2 : IntKind.i64.wrap ((k2 : Int) - 1) = (k2 : Int) - 1 := IntWalk.i64_in _ (by omega)
              have p3 : IntKind.i64.wrap ((k2 : Int) + (n : Int)) = (En : Int) := by rw [IntWalk.i64_in _ (by omega)]; omega
              have HN := Lib.hid (And.intro hn hEn)
              clear hres h8 hE hn hEn
              go_wp2_with (go_at_call 388; with_reducible refine (D.out _).mono ?_; rintro e w2 ⟨rfl, rfl⟩)
              go_loopw [10] (fun v10 wr => ∃ (z : Int) (J : Nat) (L : List Nat), v10 = .int .i64 z ∧ Hid (z = J - 1) ∧ k2 ≤ J ∧ J ≤ k2 ∧ L.length = 16 ∧ wr = (w.alloc (.cells (cellsArr [0, 0, 0, 0, 0, 0, 0, 0, 0, 0, 0, 0, 0, 0, 0, 0]) 219)).alloc (.cells (cellsArr L) 219) ∧
                  Hid (∀ k, k < 16 → L[k]? = if J + n ≤ k then (padB (gs ++ [a]))[k - n]? else (padB (gs ++ [a]))[k]?)) (fun v10 _ => (intOf v10 + 1).toNat)
              case atStart => exact ⟨_, k2, _, rfl, Lib.hid rfl, hEk, Nat.le_refl _, hP16, rfl, Lib.hid (fun k hk => by rw [if_neg (by have := HN.out; omega)])⟩
              case round =>
                obtain ⟨z, J, L, rfl, hz, hJ1, hJ2, hL, rfl, hLk⟩ := hrel
                by_cases hJ : k2 < J
                · omega
                · obtain rfl : k2 = J := by omega
                  have r0 : decide ((k2 : Int) ≤ z) = false := by have := hz.out; simp; omega
                  have r00 : ¬ (k2 : Int) ≤ z := by have := hz.out; omega
                  clear hJ
                  go_wp2
                  go_loopw [11] (fun v11 wr => ∃ (K : Nat) (M : List Nat), v11 = .int .i64 K ∧ k2 ≤ K ∧ K ≤ En ∧ M.length = 16 ∧ wr = (w.alloc (.cells (cellsArr [0, 0, 0, 0, 0, 0, 0, 0, 0, 0, 0, 0, 0, 0, 0, 0]) 219)).alloc (.cells (cellsArr M) 219) ∧
                      Hid (∀ k, k < 16 → M[k]? = if k2 ≤ k ∧ k < K then some 0 else L[k]?)) (fun v11 _ => 16 - (intOf v11).toNat)
                  case atStart => exact ⟨k2, L, rfl, Nat.le_refl _, by have := HN.out; omega, hL, rfl, Lib.hid (fun k hk => by rw [if_neg (by omega)])⟩
                  case round =>
                    obtain ⟨K, M, rfl, hK1, hK2, hL16, rfl, hMk⟩ := hrel
                    have hN := HN.out
                    by_cases hK : K < En
                    · obtain ⟨y2, hy2⟩ : ∃ y, M[K]? = some y := by rw [List.getElem?_eq_getElem (by omega)]; exact ⟨_, rfl⟩
                      have v2 : (cellsArr M)[K]? = some (.int .u8 y2) := by rw [cellsArr_get, hy2]; rfl
                      have v3 : (cellsArr M).setIfInBounds K (.int .u8 0) = cellsArr (M.set K 0) := cellsArr_set _ _ 0
                      have r3 : (K : Int) < 16 := by omega
                      have r5 : decide ((K : Int) < (En : Int)) = true := by simp; omega
                      clear hy2 hN
                      go_wp2
                      have hN := HN.out
                      refine ⟨⟨K + 1, M.set K 0, by go_num, by omega, by omega, by simp [hL16], rfl, Lib.hid ?_⟩, by simp [intOf]; omega⟩
                      intro k hk
                      rw [List.getElem?_set]
                      by_cases hkj : K = k
                      · rw [if_pos hkj, if_pos (by omega), if_pos (by omega)]
                      · rw [if_neg hkj, hMk.out k hk]
                        by_cases h : k2 ≤ k ∧ k < K
                        · rw [if_pos h, if_pos (by omega)]
                        · rw [if_neg h, if_neg (by omega)]
                    · have hKE : K = En := by omega
                      have r5 : decide ((K : Int) < (En : Int)) = false := by simp; omega
                      have r50 : ¬ K < En := by omega
                      have HB : Hid (groupBytes res = M) := Lib.hid (by
                        have hB : (groupBytes (gs ++ [a])).length = k2 := by rw [groupBytes_len, HK.out]
                        rw [HG.out]
                        have hpad : padB (gs ++ [a]) = groupBytes (gs ++ [a]) ++ List.replicate n 0 := by rw [padB]; congr 2; have := HK.out; omega
                        rw [hpad] at hLk
                        have := shift_law (groupBytes (gs ++ [a])) L M n k2 (by omega) (by omega) hLk.out (by rw [← hN.2, ← hKE]; exact hMk.out) hL16
                        rw [this, HEE.out]
                        congr 3; have := HK.out; omega)
                      clear hK hLk hMk hKE hN
                      have HLD : Hid (((w.alloc (.cells (cellsArr [0, 0, 0, 0, 0, 0, 0, 0, 0, 0, 0, 0, 0, 0, 0, 0]) 219)).alloc (.cells (cellsArr M) 219)).heap[w.heap.size + 1]? = some (.cells (cellsArr M) 219 (0, 0))) := Lib.hid (heap_alloc2_new w _ _)
                      have HST : Hid (((w.alloc (.cells (cellsArr [0, 0, 0, 0, 0, 0, 0, 0, 0, 0, 0, 0, 0, 0, 0, 0]) 219)).alloc (.cells (cellsArr M) 219)).heap[w.heap.size]? = some (.cells (cellsArr [0, 0, 0, 0, 0, 0, 0, 0, 0, 0, 0, 0, 0, 0, 0, 0]) 219 (0, 0))) := Lib.hid (heap_alloc2_old w _ _)
                      have HSZ : Hid ((Tryz.prog.info? 219).map (·.size) = some (cellsArr M).size) := Lib.hid (by rw [cellsArr_size, hL16]; exact size219)
                      have HS2 : Hid ((cellsArr [0, 0, 0, 0, 0, 0, 0, 0, 0, 0, 0, 0, 0, 0, 0, 0]).size = (cellsArr M).size) := Lib.hid (by rw [cellsArr_size, cellsArr_size, hL16]; rfl)
                      have HS3 : Hid ((((w.alloc (.cells (cellsArr [0, 0, 0, 0, 0, 0, 0, 0, 0, 0, 0, 0, 0, 0, 0, 0]) 219)).alloc (.cells (cellsArr M) 219)).setRow w.heap.size (cellsArr M)).heap[w.heap.size]? = some (.cells (cellsArr M) 219 (0, 0))) := Lib.hid (setRow_heap _ _ _ _ _ _ HST.out)
                      go_wp2_with (first | (refine wpList_load_row rfl 219 (.tmp 4) rfl (w.heap.size + 1) rfl 219 _ (0, 0) _ HLD.out Tryz.underlying219 rfl HSZ.out ?_) | (refine wpList_store_row rfl 219 (.tmp 2) (.tmp 171) rfl w.heap.size _ rfl rfl 219 _ HST.out HSZ.out HS2.out (cellsArr_one _) ?_))
                      refine bodyPost_ret (v := .tuple #[.agg _, .bool true]) (results340 _ _ _ _ rfl rfl HS3.out HSZ.out) rfl ⟨by rw [HB.out], ?_⟩
                      exact below_setRow (((Below.refl _ _).alloc (Nat.le_refl _) _).alloc (by simp) _) (Nat.le_refl _) _
            · have y7 : T2[0].toNat = 58 := by rw [g5, h58]
              have z3 : ((T3.size : Int) == 0) = false := by
                have : T3.size ≠ 0 := fun h => hr0 (by rw [← l3]; exact List.eq_nil_of_length_eq_zero (by rw [Array.length_toList]; exact h))
                rw [beq_eq_false_iff_ne]; omega
              have he : ellI none = -1 := rfl
              clear g5 g6 l3 hc58 h58 hr0
              go_wp2_with (go_at_call 388; with_reducible refine (D.out _).mono ?_; rintro e w2 ⟨rfl, rfl⟩)
              go_wp2
              have hk2 := HK2.out
              refine ⟨⟨T3, gs ++ [a], some (gs.length + 1), f, k2, rfl, by rw [ellI]; congr 1; have := HK.out; simp at this ⊢; omega, rfl, HK, hk16, HSZ.out.2, Lib.hid (fun e he => by obtain rfl := Option.some.inj he; simp), rfl, by rw [HL.out.2]; exact Lib.hid hnx⟩, by simp [intOf]; omega⟩
          · obtain ⟨rfl, rfl⟩ := List.cons.inj h
            have D : Hid (∀ wx, Calls Tryz.prog 388 #[.int .u8 t[o].toNat] wx fun e w' => e = .returned (.int .i64 (d : Nat)) ∧ wx = w') := Lib.hid fun wx => by
              have := zzDigit t[o] wx
              rwa [digI_some hv] at this
            have hd := hexVal_lt hv
            have HN := Lib.hid hnext; clear hnext hv h
            have q1 : IntKind.i64.wrap ((a : Int) * 16) = (a : Int) * 16 := IntWalk.i64_in _ (by omega)
            have q2 : IntKind.i64.wrap ((a : Int) * 16 + d) = ((a * 16 + d : Nat) : Int) := by rw [IntWalk.i64_in _ (by omega)]; omega
            have q3 : decide (3 < (o : Int)) = false := by simp; omega
            go_wp2_with (go_at_call 388; with_reducible refine (D.out _).mono ?_; rintro e w2 ⟨rfl, rfl⟩)
            refine ⟨⟨o + 1, a * 16 + d, by go_num, rfl, by omega, by omega, Lib.hid ?_, HN⟩, by simp [intOf]; omega⟩
            have := hpow.out
            rw [Nat.pow_succ]; omega
        · have hos : o = t.size := by omega
          have hst := hexRun_step hrun.out
          rw [List.drop_of_length_le (by rw [Array.length_toList]; show t.size ≤ o; omega)] at hst
          rcases hst with ⟨_, hres⟩ | ⟨x, u, h, _⟩ | ⟨x, u, d, h, _⟩
          rotate_left
          · cases h
          · cases h
          obtain ⟨rfl, rfl, rfl⟩ : a = acc ∧ o = off ∧ rest = [] := by
            simp at hres; exact ⟨hres.1.symm, hres.2.1.symm, hres.2.2⟩
          clear hres
          rcases HC.out with ⟨_, hex⟩ | ⟨c, c2, r2, h, _⟩
          rotate_left
          · cases h
          have HX := Lib.hid hex
          have olt : decide ((o : Int) < (t.size : Int)) = false := by simp; omega
          obtain ⟨bh, hbh⟩ : ∃ b, b = a / 256 := ⟨_, rfl⟩
          obtain ⟨bl, hbl⟩ : ∃ b, b = a % 256 := ⟨_, rfl⟩
          obtain ⟨k2, hk2⟩ : ∃ k, k = i + 2 := ⟨_, rfl⟩
          have w1 : IntKind.u8.wrap ((a : Int) / 256) = (bh : Int) := by rw [IntWalk.u8_in _ (by omega)]; omega
          have w2 : IntKind.u8.wrap (a : Int) = (bl : Int) := by rw [hbl]; simp [IntKind.wrap, IntKind.bits, IntKind.signed]
          have i1 : IntKind.i64.wrap ((i : Int) + 1) = (i : Int) + 1 := IntWalk.i64_in _ (by omega)
          have i2 : IntKind.i64.wrap ((i : Int) + 2) = (k2 : Int) := by rw [IntWalk.i64_in _ (by omega)]; omega
          have i3 : (i : Int) < 16 := by omega
          have i4 : (i : Int) + 1 < 16 := by omega
          have i5 : ((i : Int) + 1).toNat = i + 1 := by omega
          have hne : ¬ i = i + 1 := by omega
          have s1 : (cellsArr (padB gs)).setIfInBounds i (.int .u8 bh) = cellsArr ((padB gs).set i bh) := cellsArr_set _ _ _
          have s2 : (cellsArr ((padB gs).set i bh)).setIfInBounds (i + 1) (.int .u8 bl) = cellsArr (padB (gs ++ [a])) := by
            rw [cellsArr_set, ← HP.out, hbh, hbl]
          have s3 : (cellsArr ((padB gs).set i bh))[i + 1]? = some (.int .u8 x1) := by
            rw [cellsArr_get, List.getElem?_set_ne (by omega), ← cellsArr_get]; exact hx1
          have HK : Hid (k2 = 2 * (gs ++ [a]).length) := Lib.hid (by have := hi.out; simp; omega)
          have hk16 : k2 ≤ 16 := by omega
          have oz : ((o : Int) == 0) = false := by simp; omega
          have HK2 := Lib.hid hk2
          clear hbh hbl hx1 hrun hpow hk2
          obtain ⟨T1, hT1, z0⟩ : ∃ T, t.extract o t.size = T ∧ T.size = 0 := ⟨_, rfl, by rw [size_drop]; omega⟩
          clear hos hoff HR
          rcases expand_cases hex with ⟨hell0, h8, hres⟩ | ⟨e, hell1, _, _⟩
          · obtain rfl := hell0
            have c38 : ¬ k2 < 16 := by have := HK.out; omega
            have he : ellI none = -1 := rfl
            have hL16 := padB_len (gs ++ [a]) (by omega)
            have HB : Hid (groupBytes res = padB (gs ++ [a])) := Lib.hid (by rw [← hres, padB, h8]; simp)
            clear hres h8 hex HX hell
            have HLD : Hid (((w.alloc (.cells (cellsArr [0, 0, 0, 0, 0, 0, 0, 0, 0, 0, 0, 0, 0, 0, 0, 0]) 219)).alloc (.cells (cellsArr (padB (gs ++ [a]))) 219)).heap[w.heap.size + 1]? = some (.cells (cellsArr (padB (gs ++ [a]))) 219 (0, 0))) := Lib.hid (heap_alloc2_new w _ _)
            have HST : Hid (((w.alloc (.cells (cellsArr [0, 0, 0, 0, 0, 0, 0, 0, 0, 0, 0, 0, 0, 0, 0, 0]) 219)).alloc (.cells (cellsArr (padB (gs ++ [a]))) 219)).heap[w.heap.size]? = some (.cells (cellsArr [0, 0, 0, 0, 0, 0, 0, 0, 0, 0, 0, 0, 0, 0, 0, 0]) 219 (0, 0))) := Lib.hid (heap_alloc2_old w _ _)
            have HSZ : Hid ((Tryz.prog.info? 219).map (·.size) = some (cellsArr (padB (gs ++ [a]))).size) := Lib.hid (by rw [cellsArr_size, hL16]; exact size219)
            have HS2 : Hid ((cellsArr [0, 0, 0, 0, 0, 0, 0, 0, 0, 0, 0, 0, 0, 0, 0, 0]).size = (cellsArr (padB (gs ++ [a]))).size) := Lib.hid (by rw [cellsArr_size, cellsArr_size, hL16]; rfl)
            have HS3 : Hid ((((w.alloc (.cells (cellsArr [0, 0, 0, 0, 0, 0, 0, 0, 0, 0, 0, 0, 0, 0, 0, 0]) 219)).alloc (.cells (cellsArr (padB (gs ++ [a]))) 219)).setRow w.heap.size (cellsArr (padB (gs ++ [a])))).heap[w.heap.size]? = some (.cells (cellsArr (padB (gs ++ [a]))) 219 (0, 0))) := Lib.hid (setRow_heap _ _ _ _ _ _ HST.out)
            go_wp2_with (first | (refine wpList_load_row rfl 219 (.tmp 4) rfl (w.heap.size + 1) rfl 219 _ (0, 0) _ HLD.out Tryz.underlying219 rfl HSZ.out ?_) | (refine wpList_store_row rfl 219 (.tmp 2) (.tmp 171) rfl w.heap.size _ rfl rfl 219 _ HST.out HSZ.out HS2.out (cellsArr_one _) ?_))
            refine bodyPost_ret (v := .tuple #[.agg _, .bool true]) (results340 _ _ _ _ rfl rfl HS3.out HSZ.out) rfl ⟨by rw [HB.out], ?_⟩
            exact below_setRow (((Below.refl _ _).alloc (Nat.le_refl _) _).alloc (by simp) _) (Nat.le_refl _) _
          · obtain rfl := hell1
            have HE2 : Hid (e ≤ (gs ++ [a]).length) := Lib.hid (by have := hell.out e rfl; simp; omega)
            clear hex hell
            obtain ⟨hres, h8⟩ : res = (gs ++ [a]).take e ++ List.replicate (8 - (gs ++ [a]).length) 0 ++ (gs ++ [a]).drop e ∧ (gs ++ [a]).length < 8 := by
              rcases expand_cases HX.out with ⟨h, _⟩ | ⟨e', h1, h2, h3⟩
              · cases h
              · obtain rfl := Option.some.inj h1; exact ⟨h3, h2⟩
            have HG : Hid (groupBytes res = (groupBytes (gs ++ [a])).take (2 * e) ++ List.replicate (16 - 2 * (gs ++ [a]).length) 0 ++ (groupBytes (gs ++ [a])).drop (2 * e)) := Lib.hid (groupBytes_expand (by omega) hres)
            have hP16 : (padB (gs ++ [a])).length = 16 := padB_len _ (by omega)
            have hk3 : k2 < 16 := by have := HK.out; omega
            obtain ⟨E, hE⟩ : ∃ E, E = 2 * e := ⟨_, rfl⟩
            have hEk : E ≤ k2 := by have := HK.out; have := HE2.out; omega
            have HEE := Lib.hid hE
            have hEi : ellI (some e) = (E : Int) := by rw [ellI, hE]
            obtain ⟨n, hn⟩ : ∃ n, k2 + n = 16 := ⟨16 - k2, by omega⟩
            obtain ⟨En, hEn⟩ : ∃ z, z = E + n := ⟨_, rfl⟩
            have c38 : decide ((k2 : Int) < 16) = true := by simp; omega
            have c39 : decide ((E : Int) < 0) = false := by simp
            have p1 : IntKind.i64.wrap (16 - (k2 : Int)) = (n : Int) := by rw [IntWalk.i64_in _ (by omega)]; omega
            have p2 : IntKind.i64.wrap ((k2 : Int) - 1) = (k2 : Int) - 1 := IntWalk.i64_in _ (by omega)
            have p3 : IntKind.i64.wrap ((E : Int) + (n : Int)) = (En : Int) := by rw [IntWalk.i64_in _ (by omega)]; omega
            have HN := Lib.hid (And.intro hn hEn)
            clear hres h8 hE hn hEn
            go_wp2
            go_loopw [10] (fun v10 wr => ∃ (z : Int) (J : Nat) (L : List Nat), v10 = .int .i64 z ∧ Hid (z = J - 1) ∧ E ≤ J ∧ J ≤ k2 ∧ L.length = 16 ∧ wr = (w.alloc (.cells (cellsArr [0, 0, 0, 0, 0, 0, 0, 0, 0, 0, 0, 0, 0, 0, 0, 0]) 219)).alloc (.cells (cellsArr L) 219) ∧
                Hid (∀ k, k < 16 → L[k]? = if J + n ≤ k then (padB (gs ++ [a]))[k - n]? else (padB (gs ++ [a]))[k]?)) (fun v10 _ => (intOf v10 + 1).toNat)
            case atStart => exact ⟨_, k2, _, rfl, Lib.hid rfl, hEk, Nat.le_refl _, hP16, rfl, Lib.hid (fun k hk => by rw [if_neg (by have := HN.out; omega)])⟩
            case round =>
              obtain ⟨z, J, L, rfl, hz, hJ1, hJ2, hL, rfl, hLk⟩ := hrel
              by_cases hJ : E < J
              · obtain ⟨j, rfl⟩ : ∃ j, J = j + 1 := ⟨J - 1, by omega⟩
                obtain rfl : z = (j : Int) := by have := hz.out; omega
                have hN := HN.out
                obtain ⟨jn, hjn⟩ : ∃ k, k = j + n := ⟨_, rfl⟩
                obtain ⟨y1, hy1⟩ : ∃ y, L[j]? = some y := by rw [List.getElem?_eq_getElem (by omega)]; exact ⟨_, rfl⟩
                obtain ⟨y2, hy2⟩ : ∃ y, L[jn]? = some y := by rw [List.getElem?_eq_getElem (by omega)]; exact ⟨_, rfl⟩
                have v1 : (cellsArr L)[j]? = some (.int .u8 y1) := by rw [cellsArr_get, hy1]; rfl
                have v2 : (cellsArr L)[jn]? = some (.int .u8 y2) := by rw [cellsArr_get, hy2]; rfl
                have v3 : (cellsArr L).setIfInBounds jn (.int .u8 y1) = cellsArr (L.set jn y1) := cellsArr_set _ _ _
                have r0 : decide ((E : Int) ≤ (j : Int)) = true := by simp; omega
                have r1 : IntKind.i64.wrap ((j : Int) + (n : Int)) = (jn : Int) := by rw [IntWalk.i64_in _ (by omega)]; omega
                have r2 : IntKind.i64.wrap ((j : Int) - 1) = (j : Int) - 1 := IntWalk.i64_in _ (by omega)
                have r3 : (j : Int) < 16 := by omega
                have r4 : (jn : Int) < 16 := by omega
                have HY := Lib.hid (And.intro hy1 hjn); clear hy1 hy2 hjn hN
                go_wp2
                have hjn := HY.out.2
                have hN := HN.out
                refine ⟨⟨_, j, L.set jn y1, rfl, Lib.hid rfl, by omega, by omega, by simp [hL], rfl, Lib.hid ?_⟩, by first | (simp [intOf]; done) | (simp [intOf]; omega)⟩
                intro k hk
                rw [List.getElem?_set]
                by_cases hkj : jn = k
                · rw [if_pos hkj, if_pos (by omega), if_pos (by omega), show k - n = j by omega]
                  have := hLk.out j (by omega)
                  rw [if_neg (by omega)] at this
                  rw [← this, HY.out.1]
                · rw [if_neg hkj, hLk.out k hk]
                  by_cases h : j + 1 + n ≤ k
                  · rw [if_pos h, if_pos (by omega)]
                  · rw [if_neg h, if_neg (by omega)]
              · obtain rfl : E = J := by omega
                have r0 : decide ((E : Int) ≤ z) = false := by have := hz.out; simp; omega
                have r00 : ¬ (E : Int) ≤ z := by have := hz.out; omega
                clear hJ
                go_wp2
                go_loopw [11] (fun v11 wr => ∃ (K : Nat) (M : List Nat), v11 = .int .i64 K ∧ E ≤ K ∧ K ≤ En ∧ M.length = 16 ∧ wr = (w.alloc (.cells (cellsArr [0, 0, 0, 0, 0, 0, 0, 0, 0, 0, 0, 0, 0, 0, 0, 0]) 219)).alloc (.cells (cellsArr M) 219) ∧
                    Hid (∀ k, k < 16 → M[k]? = if E ≤ k ∧ k < K then some 0 else L[k]?)) (fun v11 _ => 16 - (intOf v11).toNat)
                case atStart => exact ⟨E, L, rfl, Nat.le_refl _, by have := HN.out; omega, hL, rfl, Lib.hid (fun k hk => by rw [if_neg (by omega)])⟩
                case round =>
                  obtain ⟨K, M, rfl, hK1, hK2, hL16, rfl, hMk⟩ := hrel
                  have hN := HN.out
                  by_cases hK : K < En
                  · obtain ⟨y2, hy2⟩ : ∃ y, M[K]? = some y := by rw [List.getElem?_eq_getElem (by omega)]; exact ⟨_, rfl⟩
                    have v2 : (cellsArr M)[K]? = some (.int .u8 y2) := by rw [cellsArr_get, hy2]; rfl
                    have v3 : (cellsArr M).setIfInBounds K (.int .u8 0) = cellsArr (M.set K 0) := cellsArr_set _ _ 0
                    have r3 : (K : Int) < 16 := by omega
                    have r5 : decide ((K : Int) < (En : Int)) = true := by simp; omega
                    clear hy2 hN
                    go_wp2
                    have hN := HN.out
                    refine ⟨⟨K + 1, M.set K 0, by go_num, by omega, by omega, by simp [hL16], rfl, Lib.hid ?_⟩, by simp [intOf]; omega⟩
                    intro k hk
                    rw [List.getElem?_set]
                    by_cases hkj : K = k
                    · rw [if_pos hkj, if_pos (by omega), if_pos (by omega)]
                    · rw [if_neg hkj, hMk.out k hk]
                      by_cases h : E ≤ k ∧ k < K
                      · rw [if_pos h, if_pos (by omega)]
                      · rw [if_neg h, if_neg (by omega)]
                  · have hKE : K = En := by omega
                    have r5 : decide ((K : Int) < (En : Int)) = false := by simp; omega
                    have r50 : ¬ K < En := by omega
                    have HB : Hid (groupBytes res = M) := Lib.hid (by
                      have hB : (groupBytes (gs ++ [a])).length = k2 := by rw [groupBytes_len, HK.out]
                      rw [HG.out]
                      have hpad : padB (gs ++ [a]) = groupBytes (gs ++ [a]) ++ List.replicate n 0 := by rw [padB]; congr 2; have := HK.out; omega
                      rw [hpad] at hLk
                      have := shift_law (groupBytes (gs ++ [a])) L M n E (by omega) (by omega) hLk.out (by rw [← hN.2, ← hKE]; exact hMk.out) hL16
                      rw [this, HEE.out]
                      congr 3; have := HK.out; omega)
                    clear hK hLk hMk hKE hN
                    have HLD : Hid (((w.alloc (.cells (cellsArr [0, 0, 0, 0, 0, 0, 0, 0, 0, 0, 0, 0, 0, 0, 0, 0]) 219)).alloc (.cells (cellsArr M) 219)).heap[w.heap.size + 1]? = some (.cells (cellsArr M) 219 (0, 0))) := Lib.hid (heap_alloc2_new w _ _)
                    have HST : Hid (((w.alloc (.cells (cellsArr [0, 0, 0, 0, 0, 0, 0, 0, 0, 0, 0, 0, 0, 0, 0, 0]) 219)).alloc (.cells (cellsArr M) 219)).heap[w.heap.size]? = some (.cells (cellsArr [0, 0, 0, 0, 0, 0, 0, 0, 0, 0, 0, 0, 0, 0, 0, 0]) 219 (0, 0))) := Lib.hid (heap_alloc2_old w _ _)
                    have HSZ : Hid ((Tryz.prog.info? 219).map (·.size) = some (cellsArr M).size) := Lib.hid (by rw [cellsArr_size, hL16]; exact size219)
                    have HS2 : Hid ((cellsArr [0, 0, 0, 0, 0, 0, 0, 0, 0, 0, 0, 0, 0, 0, 0, 0]).size = (cellsArr M).size) := Lib.hid (by rw [cellsArr_size, cellsArr_size, hL16]; rfl)
                    have HS3 : Hid ((((w.alloc (.cells (cellsArr [0, 0, 0, 0, 0, 0, 0, 0, 0, 0, 0, 0, 0, 0, 0, 0]) 219)).alloc (.cells (cellsArr M) 219)).setRow w.heap.size (cellsArr M)).heap[w.heap.size]? = some (.cells (cellsArr M) 219 (0, 0))) := Lib.hid (setRow_heap _ _ _ _ _ _ HST.out)
                    go_wp2_with (first | (refine wpList_load_row rfl 219 (.tmp 4) rfl (w.heap.size + 1) rfl 219 _ (0, 0) _ HLD.out Tryz.underlying219 rfl HSZ.out ?_) | (refine wpList_store_row rfl 219 (.tmp 2) (.tmp 171) rfl w.heap.size _ rfl rfl 219 _ HST.out HSZ.out HS2.out (cellsArr_one _) ?_))
                    refine bodyPost_ret (v := .tuple #[.agg _, .bool true]) (results340 _ _ _ _ rfl rfl HS3.out HSZ.out) rfl ⟨by rw [HB.out], ?_⟩
                    exact below_setRow (((Below.refl _ _).alloc (Nat.le_refl _) _).alloc (by simp) _) (Nat.le_refl _) _
    · have h8 : gs.length = 8 := by have := hi.out; omega
      obtain ⟨ht0, rfl, hres⟩ := p6_full hq.out h8
      have hts : t.size = 0 := by
        have h : t.data.toList.length = 0 := by rw [ht0]; rfl
        rw [Array.length_toList] at h; exact h
      obtain rfl : i = 16 := by omega
      have HB : Hid (groupBytes res = padB gs) := Lib.hid (by rw [padB, h8, hres]; simp)
      have he : ellI none = -1 := rfl
      clear hres h8 hlt hi ht0 hell hq
      have HLD : Hid (((w.alloc (.cells (cellsArr [0, 0, 0, 0, 0, 0, 0, 0, 0, 0, 0, 0, 0, 0, 0, 0]) 219)).alloc (.cells (cellsArr (padB gs)) 219)).heap[w.heap.size + 1]? = some (.cells (cellsArr (padB gs)) 219 (0, 0))) := Lib.hid (heap_alloc2_new w _ _)
      have HST : Hid (((w.alloc (.cells (cellsArr [0, 0, 0, 0, 0, 0, 0, 0, 0, 0, 0, 0, 0, 0, 0, 0]) 219)).alloc (.cells (cellsArr (padB gs)) 219)).heap[w.heap.size]? = some (.cells (cellsArr [0, 0, 0, 0, 0, 0, 0, 0, 0, 0, 0, 0, 0, 0, 0, 0]) 219 (0, 0))) := Lib.hid (heap_alloc2_old w _ _)
      have HSZ : Hid ((Tryz.prog.info? 219).map (·.size) = some (cellsArr (padB gs)).size) := Lib.hid (by rw [cellsArr_size, hL16]; exact size219)
      have HS2 : Hid ((cellsArr [0, 0, 0, 0, 0, 0, 0, 0, 0, 0, 0, 0, 0, 0, 0, 0]).size = (cellsArr (padB gs)).size) := Lib.hid (by rw [cellsArr_size, cellsArr_size, hL16]; rfl)
      have HS3 : Hid ((((w.alloc (.cells (cellsArr [0, 0, 0, 0, 0, 0, 0, 0, 0, 0, 0, 0, 0, 0, 0, 0]) 219)).alloc (.cells (cellsArr (padB gs)) 219)).setRow w.heap.size (cellsArr (padB gs))).heap[w.heap.size]? = some (.cells (cellsArr (padB gs)) 219 (0, 0))) := Lib.hid (setRow_heap _ _ _ _ _ _ HST.out)
      go_wp2_with (first | (refine wpList_load_row rfl 219 (.tmp 4) rfl (w.heap.size + 1) rfl 219 _ (0, 0) _ HLD.out Tryz.underlying219 rfl HSZ.out ?_) | (refine wpList_store_row rfl 219 (.tmp 2) (.tmp 171) rfl w.heap.size _ rfl rfl 219 _ HST.out HSZ.out HS2.out (cellsArr_one _) ?_))
      refine bodyPost_ret (v := .tuple #[.agg _, .bool true]) (results340 _ _ _ _ rfl rfl HS3.out HSZ.out) rfl ⟨by rw [HB.out], ?_⟩
      exact below_setRow (((Below.refl _ _).alloc (Nat.le_refl _) _).alloc (by simp) _) (Nat.le_refl _) _
end Go.Proofs.YtnpcmmjdojdmnaaGreatDoor
