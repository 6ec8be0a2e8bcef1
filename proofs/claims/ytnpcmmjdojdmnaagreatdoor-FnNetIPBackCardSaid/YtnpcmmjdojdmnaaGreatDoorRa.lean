/- The text of an address of 128 bits, and its reading back: plain law, no program. zzDigit, zzHex: hexadecimal digits are read and written. -/
import Derived.KernelRfl
import Derived.Test.YtnpcmmjdojdmnaaGreatDoorQc
import Derived.IntWalk
import Derived.WalkSpells
import Derived.WalkLawsBesides
namespace Go.Proofs.YtnpcmmjdojdmnaaGreatDoor
/-- A hexadecimal digit. -/
def hexDig (d : Nat) : UInt8 := UInt8.ofNat (if d < 10 then 48 + d else 87 + d)
/-- The value of a hexadecimal digit. -/
def hexVal (c : UInt8) : Option Nat :=
  if 48 ≤ c.toNat ∧ c.toNat ≤ 57 then some (c.toNat - 48)
  else if 97 ≤ c.toNat ∧ c.toNat ≤ 102 then some (c.toNat - 87)
  else if 65 ≤ c.toNat ∧ c.toNat ≤ 70 then some (c.toNat - 55) else none
/-- The hexadecimal digits of a number. -/
def hexs (n : Nat) : List UInt8 := if n < 16 then [hexDig n] else hexs (n / 16) ++ [hexDig (n % 16)]
/-- Digits are read: the number, how many, what is left; nothing beyond four. -/
def hexRun : Nat → Nat → List UInt8 → Option (Nat × Nat × List UInt8)
  | acc, off, [] => some (acc, off, [])
  | acc, off, x :: r => match hexVal x with
    | none => some (acc, off, x :: r)
    | some d => if 3 < off then none else hexRun (acc * 16 + d) (off + 1) r
/-- The reader of groups. -/
def p6 : Nat → List UInt8 → List Nat → Option Nat → Option (List Nat × Option Nat)
  | 0, _, _, _ => none
  | fuel + 1, l, gs, ell =>
    if 8 ≤ gs.length then (if l = [] then some (gs, ell) else none)
    else match hexRun 0 0 l with
      | none => none
      | some (acc, off, rest) =>
        if off = 0 then none
        else match rest with
          | [] => some (gs ++ [acc], ell)
          | [_] => none
          | c :: c2 :: r2 =>
            if c.toNat ≠ 58 then none
            else if c2.toNat = 58 then
              if ell.isSome then none else if r2 = [] then some (gs ++ [acc], some (gs.length + 1)) else p6 fuel r2 (gs ++ [acc]) (some (gs.length + 1))
            else p6 fuel (c2 :: r2) (gs ++ [acc]) ell
/-- The groups that an ellipsis stands for. -/
def expand : List Nat × Option Nat → Option (List Nat)
  | (gs, none) => if gs.length = 8 then some gs else none
  | (gs, some e) => if gs.length < 8 then some (gs.take e ++ List.replicate (8 - gs.length) 0 ++ gs.drop e) else none
/-- The reader of addresses of 128 bits. -/
def parse6 (l : List UInt8) : Option (List Nat) :=
  if l.take 2 = [58, 58] then (if l.drop 2 = [] then some (List.replicate 8 0) else (p6 9 (l.drop 2) [] (some 0)).bind expand)
  else (p6 9 l [] none).bind expand
/-- Groups with colons between them. -/
def joinC : List Nat → List UInt8
  | [] => []
  | [g] => hexs g
  | g :: g2 :: r => hexs g ++ 58 :: joinC (g2 :: r)
/-- The text of eight groups; those from 'fr' to 'to' are left out. -/
def fmt6 (gs : List Nat) (fr to : Nat) : List UInt8 := if fr = 255 then joinC gs else joinC (gs.take fr) ++ [58, 58] ++ joinC (gs.drop to)

theorem hexVal_hexDig (d : Nat) (h : d < 16) : hexVal (hexDig d) = some d := by
  have : ∀ d : Fin 16, hexVal (hexDig d) = some d.val := by decide
  exact this ⟨d, h⟩
theorem hexs_ne (n : Nat) : hexs n ≠ [] := by rw [hexs]; split <;> simp
theorem hexs_len : ∀ (k n : Nat), n < 16 ^ (k + 1) → (hexs n).length ≤ k + 1
  | 0, n, h => by rw [hexs, if_pos (by simpa using h)]; simp
  | k + 1, n, h => by
    rw [hexs]
    split
    · simp
    · have := hexs_len k (n / 16) (by rw [Nat.div_lt_iff_lt_mul (by decide), ← Nat.pow_succ]; exact h)
      simp; omega
theorem hexs_mem (n : Nat) : ∀ x ∈ hexs n, ∃ d, d < 16 ∧ x = hexDig d := by
  induction n using Nat.strongRecOn with
  | _ n ih =>
    rw [hexs]
    split
    · rename_i h; intro x hx; exact ⟨n, h, by simpa using hx⟩
    · rename_i h
      intro x hx
      rcases List.mem_append.1 hx with hx | hx
      · exact ih (n / 16) (by omega) x hx
      · exact ⟨n % 16, by omega, by simpa using hx⟩
theorem hexRun_hexs (n : Nat) : ∀ (acc off : Nat) (rest : List UInt8), off + (hexs n).length ≤ 4 →
    hexRun acc off (hexs n ++ rest) = hexRun (acc * 16 ^ (hexs n).length + n) (off + (hexs n).length) rest := by
  induction n using Nat.strongRecOn with
  | _ n ih =>
    intro acc off rest hl
    by_cases h : n < 16
    · have e : hexs n = [hexDig n] := by rw [hexs, if_pos h]
      rw [e] at hl ⊢
      simp only [List.length_singleton] at hl ⊢
      rw [List.cons_append, List.nil_append, hexRun, hexVal_hexDig n h]
      simp only
      rw [if_neg (by omega), Nat.pow_one]
    · have e : hexs n = hexs (n / 16) ++ [hexDig (n % 16)] := by rw [hexs, if_neg h]
      have ih' := ih (n / 16) (by omega)
      rw [e] at hl ⊢
      simp only [List.length_append, List.length_singleton] at hl ⊢
      rw [List.append_assoc, ih' acc off _ (by omega), List.cons_append, List.nil_append, hexRun, hexVal_hexDig _ (by omega)]
      simp only
      rw [if_neg (by omega), Nat.pow_succ]
      congr 1
      have := Nat.div_add_mod n 16
      rw [Nat.add_mul, Nat.mul_assoc]; omega
theorem hexRun_stop (n : Nat) (h : n < 65536) (rest : List UInt8) (hr : rest = [] ∨ ∃ r, rest = 58 :: r) :
    ∃ k, k ≠ 0 ∧ hexRun 0 0 (hexs n ++ rest) = some (n, k, rest) := by
  have hl := hexs_len 3 n (by simpa using h)
  have hne := hexs_ne n
  refine ⟨(hexs n).length, by rw [Ne, List.length_eq_zero_iff]; exact hne, ?_⟩
  rw [hexRun_hexs n 0 0 rest (by omega), Nat.zero_mul, Nat.zero_add, Nat.zero_add]
  rcases hr with rfl | ⟨r, rfl⟩
  · rw [hexRun]
  · rw [hexRun]
    have : hexVal 58 = none := by decide
    rw [this]
theorem joinC_head (g : Nat) (r : List Nat) : ∃ d t, d < 16 ∧ joinC (g :: r) = hexDig d :: t := by
  obtain ⟨x, t, hx⟩ : ∃ x t, hexs g = x :: t := by
    cases h : hexs g with
    | nil => exact absurd h (hexs_ne g)
    | cons x t => exact ⟨x, t, rfl⟩
  obtain ⟨d, hd, rfl⟩ := hexs_mem g x (by rw [hx]; exact List.mem_cons_self ..)
  cases r with
  | nil => exact ⟨d, t, hd, by rw [joinC, hx]⟩
  | cons g2 r => exact ⟨d, t ++ 58 :: joinC (g2 :: r), hd, by rw [joinC, hx]; rfl⟩
theorem hexDig_ne (d : Nat) (h : d < 16) : (hexDig d).toNat ≠ 58 := by
  have : ∀ d : Fin 16, (hexDig d).toNat ≠ 58 := by decide
  exact this ⟨d, h⟩
theorem p6_join : ∀ (B A : List Nat) (ell : Option Nat) (fuel : Nat), B ≠ [] → A.length + B.length ≤ 8 → B.length ≤ fuel → (∀ g ∈ B, g < 65536) → p6 fuel (joinC B) A ell = some (A ++ B, ell)
  | [], _, _, _, h, _, _, _ => absurd rfl h
  | [g], A, ell, fuel + 1, _, hA, _, hg => by
    obtain ⟨k, hk, he⟩ := hexRun_stop g (hg g (by simp)) [] (Or.inl rfl)
    rw [List.append_nil] at he
    rw [joinC, p6, if_neg (by simp at hA; omega), he]
    simp only
    rw [if_neg hk]
  | g :: g2 :: r, A, ell, fuel + 1, _, hA, hf, hg => by
    obtain ⟨k, hk, he⟩ := hexRun_stop g (hg g (by simp)) (58 :: joinC (g2 :: r)) (Or.inr ⟨_, rfl⟩)
    have ih := p6_join (g2 :: r) (A ++ [g]) ell fuel (by simp) (by simp at hA ⊢; omega) (by simp at hf ⊢; omega) (fun x hx => hg x (List.mem_cons_of_mem _ hx))
    rw [joinC, p6, if_neg (by simp at hA; omega), he]
    obtain ⟨d, t, hd, hj⟩ := joinC_head g2 r
    rw [hj] at ih ⊢
    simp only
    rw [if_neg hk, if_neg (by decide), if_neg (hexDig_ne d hd), ih, List.append_assoc]; rfl
  | _ :: _, _, _, 0, _, _, h, _ => by simp at h
theorem p6_mid : ∀ (L A B : List Nat) (fuel : Nat), L ≠ [] → A.length + L.length + B.length ≤ 7 → L.length + B.length ≤ fuel → (∀ g ∈ L, g < 65536) → (∀ g ∈ B, g < 65536) →
    p6 fuel (joinC L ++ 58 :: 58 :: joinC B) A none = some (A ++ L ++ B, some (A.length + L.length))
  | [], _, _, _, h, _, _, _, _ => absurd rfl h
  | [g], A, B, fuel + 1, _, hA, hf, hg, hB => by
    obtain ⟨k, hk, he⟩ := hexRun_stop g (hg g (by simp)) (58 :: 58 :: joinC B) (Or.inr ⟨_, rfl⟩)
    rw [joinC, p6, if_neg (by simp at hA; omega), he]
    simp only
    rw [if_neg hk, if_neg (by decide), if_pos (by decide), if_neg (by simp)]
    cases B with
    | nil => rw [joinC, if_pos rfl]; simp
    | cons b B =>
      obtain ⟨d, t, hd, hj⟩ := joinC_head b B
      rw [if_neg (by rw [hj]; simp), p6_join (b :: B) (A ++ [g]) _ fuel (by simp) (by simp at hA ⊢; omega) (by simp at hf ⊢; omega) hB]
      simp
  | g :: g2 :: r, A, B, fuel + 1, _, hA, hf, hg, hB => by
    obtain ⟨k, hk, he⟩ := hexRun_stop g (hg g (by simp)) (58 :: (joinC (g2 :: r) ++ 58 :: 58 :: joinC B)) (Or.inr ⟨_, rfl⟩)
    have ih := p6_mid (g2 :: r) (A ++ [g]) B fuel (by simp) (by simp at hA ⊢; omega) (by simp at hf ⊢; omega) (fun x hx => hg x (List.mem_cons_of_mem _ hx)) hB
    rw [joinC, List.append_assoc, List.cons_append, p6, if_neg (by simp at hA; omega), he]
    obtain ⟨d, t, hd, hj⟩ := joinC_head g2 r
    rw [hj, List.cons_append] at ih ⊢
    simp only
    rw [if_neg hk, if_neg (by decide), if_neg (hexDig_ne d hd), ih]
    simp; omega
  | _ :: _, _, _, 0, _, _, h, _, _ => by simp at h
theorem joinC_take2 (gs : List Nat) (t : List UInt8) (h : gs ≠ []) : (joinC gs ++ t).take 2 ≠ [58, 58] := by
  cases gs with
  | nil => exact absurd rfl h
  | cons g r =>
    obtain ⟨d, u, hd, hj⟩ := joinC_head g r
    rw [hj]
    intro hc
    have : (hexDig d).toNat = 58 := by simp at hc; rw [hc.1]; rfl
    exact hexDig_ne d hd this
/-- What is written is read back. -/
theorem parse6_fmt6 (gs : List Nat) (fr to : Nat) (h8 : gs.length = 8) (hg : ∀ g ∈ gs, g < 65536)
    (hft : fr = 255 ∨ (fr + 2 ≤ to ∧ to ≤ 8 ∧ ∀ j, fr ≤ j → j < to → gs[j]? = some 0)) : parse6 (fmt6 gs fr to) = some gs := by
  by_cases hf : fr = 255
  · rw [fmt6, if_pos hf, parse6]
    have h2 := joinC_take2 gs [] (by intro h; rw [h] at h8; simp at h8)
    rw [List.append_nil] at h2
    rw [if_neg h2, p6_join gs [] none 9 (by intro h; rw [h] at h8; simp at h8) (by simp; omega) (by omega) hg]
    show expand (gs, none) = some gs
    rw [expand, if_pos h8]
  · obtain ⟨h1, h2, h3⟩ := hft.resolve_left hf
    have hrep : (gs.drop fr).take (to - fr) = List.replicate (to - fr) 0 := by
      apply List.ext_getElem?
      intro j
      rw [List.getElem?_take, List.getElem?_replicate]
      split
      · rw [List.getElem?_drop, h3 _ (by omega) (by omega)]
      · rfl
    have hsum : gs = gs.take fr ++ (List.replicate (to - fr) 0 ++ gs.drop to) := by
      rw [← hrep]
      have : (gs.drop fr).drop (to - fr) = gs.drop to := by rw [List.drop_drop]; congr 1; omega
      rw [← this, List.take_append_drop, List.take_append_drop]
    have hl1 : (gs.take fr).length = fr := by simp; omega
    have hl2 : (gs.drop to).length = 8 - to := by simp; omega
    have he : expand (gs.take fr ++ gs.drop to, some fr) = some gs := by
      rw [expand, if_pos (by rw [List.length_append, hl1, hl2]; omega), List.length_append, hl1, hl2]
      rw [List.take_append_of_le_length (by omega), List.take_of_length_le (by omega), List.drop_append_of_le_length (by omega), List.drop_of_length_le (by omega), List.nil_append]
      rw [show 8 - (fr + (8 - to)) = to - fr by omega, List.append_assoc, ← hsum]
    rw [fmt6, if_neg hf, parse6]
    cases hL : gs.take fr with
    | nil =>
      have hfr : fr = 0 := by rw [hL] at hl1; simpa using hl1.symm
      rw [joinC, List.nil_append, if_pos (by simp)]
      have e2 : ([58, 58] ++ joinC (gs.drop to)).drop 2 = joinC (gs.drop to) := rfl
      rw [e2]
      cases hD : gs.drop to with
      | nil =>
        rw [joinC, if_pos rfl]
        rw [hL, hD] at hsum
        have : to = 8 := by rw [hD] at hl2; simp at hl2; omega
        rw [hsum]; simp [this, hfr]
      | cons b B =>
        obtain ⟨d, u, hd, hj⟩ := joinC_head b B
        rw [if_neg (by rw [hj]; simp), ← hD, p6_join (gs.drop to) [] _ 9 (by rw [hD]; simp) (by rw [hl2]; simp) (by omega) (fun g h => hg g (List.mem_of_mem_drop h))]
        show expand ([] ++ gs.drop to, some 0) = some gs
        rw [hL, hfr] at he
        exact he
    | cons a A =>
      rw [List.append_assoc, if_neg (joinC_take2 _ _ (by simp)), ← hL]
      have := p6_mid (gs.take fr) [] (gs.drop to) 9 (by rw [hL]; simp) (by rw [hl1, hl2]; simp; omega) (by rw [hl1, hl2]; omega) (fun g h => hg g (List.mem_of_mem_take h)) (fun g h => hg g (List.mem_of_mem_drop h))
      rw [show [58, 58] ++ joinC (gs.drop to) = 58 :: 58 :: joinC (gs.drop to) from rfl, this]
      show expand ([] ++ gs.take fr ++ gs.drop to, some (0 + (gs.take fr).length)) = some gs
      rw [List.nil_append, Nat.zero_add, hl1]
      exact he
theorem joinC_snoc : ∀ (l : List Nat) (g : Nat), joinC (l ++ [g]) = if l = [] then hexs g else joinC l ++ 58 :: hexs g
  | [], g => by simp [joinC]
  | [a], g => by simp [joinC]
  | a :: b :: r, g => by
    have := joinC_snoc (b :: r) g
    rw [if_neg (by simp)] at this
    rw [if_neg (by simp)]
    show hexs a ++ 58 :: joinC ((b :: r) ++ [g]) = _
    rw [this, joinC]; simp
theorem joinC_chars : ∀ (l : List Nat), ∀ x ∈ joinC l, (∃ d, d < 16 ∧ x = hexDig d) ∨ x = 58
  | [] => by simp [joinC]
  | [g] => fun x hx => Or.inl (hexs_mem g x (by simpa [joinC] using hx))
  | a :: b :: r => fun x hx => by
    rw [joinC] at hx
    rcases List.mem_append.1 hx with hx | hx
    · exact Or.inl (hexs_mem a x hx)
    · rcases List.mem_cons.1 hx with rfl | hx
      · exact Or.inr rfl
      · exact joinC_chars (b :: r) x hx
theorem fmt6_chars (gs : List Nat) (fr to : Nat) : ∀ x ∈ fmt6 gs fr to, (∃ d, d < 16 ∧ x = hexDig d) ∨ x = 58 := by
  intro x hx
  rw [fmt6] at hx
  split at hx
  · exact joinC_chars _ x hx
  · simp only [List.mem_append] at hx
    rcases hx with (hx | hx) | hx
    · exact joinC_chars _ x hx
    · exact Or.inr (by simpa using hx)
    · exact joinC_chars _ x hx
theorem fmt6_colon (gs : List Nat) (fr to : Nat) (h8 : gs.length = 8) : (58 : UInt8) ∈ fmt6 gs fr to := by
  rw [fmt6]
  split
  · match gs, h8 with
    | a :: b :: r, _ => rw [joinC]; simp
  · simp
theorem joinC_len : ∀ (l : List Nat), (∀ g ∈ l, g < 65536) → (joinC l).length ≤ 5 * l.length
  | [], _ => by simp [joinC]
  | [g], h => by
    have := hexs_len 3 g (by simpa using h)
    rw [joinC]; simp; omega
  | a :: b :: r, h => by
    have h1 := hexs_len 3 a (by simpa using h a (by simp))
    have h2 := joinC_len (b :: r) (fun g hg => h g (List.mem_cons_of_mem _ hg))
    rw [joinC]; simp at h2 ⊢; omega
theorem fmt6_len (gs : List Nat) (fr to : Nat) (h8 : gs.length = 8) (h : ∀ g ∈ gs, g < 65536) : (fmt6 gs fr to).length ≤ 82 := by
  rw [fmt6]
  split
  · have := joinC_len gs h; omega
  · have h1 := joinC_len (gs.take fr) (fun g hg => h g (List.mem_of_mem_take hg))
    have h2 := joinC_len (gs.drop to) (fun g hg => h g (List.mem_of_mem_drop hg))
    simp at h1 h2 ⊢; omega
/-- The bytes of groups. -/
def groupBytes : List Nat → List Nat
  | [] => []
  | g :: r => g / 256 :: g % 256 :: groupBytes r
theorem groupBytes_len : ∀ l : List Nat, (groupBytes l).length = 2 * l.length
  | [] => rfl
  | g :: r => by simp [groupBytes, groupBytes_len r]; omega
end Go.Proofs.YtnpcmmjdojdmnaaGreatDoor
namespace Go.Proofs.YtnpcmmjdojdmnaaGreatDoor
open Go Go.RowKit

/-- A digit's value, -1 for none. -/
def digI (c : UInt8) : Int := match hexVal c with | some d => d | none => -1
theorem digI_none {c : UInt8} (h : hexVal c = none) : digI c = -1 := by rw [digI, h]
theorem digI_some {c : UInt8} {d : Nat} (h : hexVal c = some d) : digI c = d := by rw [digI, h]
theorem hexVal_lt {c : UInt8} {d : Nat} (h : hexVal c = some d) : d < 16 := by
  unfold hexVal at h
  split at h
  · have := Option.some.inj h; omega
  · split at h
    · have := Option.some.inj h; omega
    · split at h
      · have := Option.some.inj h; omega
      · cases h

set_option maxRecDepth 100000 in
set_option maxHeartbeats 4000000 in
theorem zzDigit (c : UInt8) (w : World) : Calls Tryz.prog 388 #[.int .u8 c.toNat] w fun e w' => e = .returned (.int .i64 (digI c)) ∧ w = w' := by
  have hx := c.toNat_lt
  generalize hr : digI c = r
  unfold digI hexVal at hr
  generalize c.toNat = n at *
  have HR := Lib.hid hr; clear hr
  by_cases a1 : 48 ≤ n
  · by_cases a2 : n ≤ 57
    · have e1 : decide (48 ≤ (n : Int)) = true := by simp; omega
      have e2 : decide ((n : Int) ≤ 57) = true := by simp; omega
      have q : IntKind.u8.wrap ((n : Int) - 48) = (n : Int) - 48 := IntWalk.u8_in _ (by omega)
      have q2 : IntKind.i64.wrap ((n : Int) - 48) = (n : Int) - 48 := IntWalk.i64_in _ (by omega)
      have hf : (n : Int) - 48 = r := by have := HR.out; rw [if_pos ⟨a1, a2⟩] at this; simp only at this; omega
      have HF := Lib.hid hf; clear hf a1 a2
      go_enter Tryz.func388, Tryz.ntmps388
      go_wp2
      go_ret
      exact ⟨ret_int HF.out, rfl⟩
    · have e1 : decide (48 ≤ (n : Int)) = true := by simp; omega
      have e2 : decide ((n : Int) ≤ 57) = false := by simp; omega
      by_cases b1 : 97 ≤ n
      · by_cases b2 : n ≤ 102
        · have e3 : decide (97 ≤ (n : Int)) = true := by simp; omega
          have e4 : decide ((n : Int) ≤ 102) = true := by simp; omega
          have q : IntKind.u8.wrap ((n : Int) - 97) = (n : Int) - 97 := IntWalk.u8_in _ (by omega)
          have q2 : IntKind.i64.wrap ((n : Int) - 97) = (n : Int) - 97 := IntWalk.i64_in _ (by omega)
          have q3 : IntKind.i64.wrap ((n : Int) - 97 + 10) = (n : Int) - 97 + 10 := IntWalk.i64_in _ (by omega)
          have hf : (n : Int) - 97 + 10 = r := by have := HR.out; rw [if_neg (by omega), if_pos ⟨b1, b2⟩] at this; simp only at this; omega
          have HF := Lib.hid hf; clear hf a1 a2 b1 b2
          go_enter Tryz.func388, Tryz.ntmps388
          go_wp2
          go_ret
          exact ⟨ret_int HF.out, rfl⟩
        · have e3 : decide (97 ≤ (n : Int)) = true := by simp; omega
          have e4 : decide ((n : Int) ≤ 102) = false := by simp; omega
          have e5 : decide (65 ≤ (n : Int)) = true := by simp; omega
          have e6 : decide ((n : Int) ≤ 70) = false := by simp; omega
          have hf : (-1 : Int) = r := by have := HR.out; rw [if_neg (by omega), if_neg (by omega), if_neg (by omega)] at this; exact this
          have HF := Lib.hid hf; clear hf a1 a2 b1 b2
          go_enter Tryz.func388, Tryz.ntmps388
          go_wp2
          go_ret
          exact ⟨ret_int HF.out, rfl⟩
      · have e3 : decide (97 ≤ (n : Int)) = false := by simp; omega
        by_cases c1 : 65 ≤ n
        · by_cases c2 : n ≤ 70
          · have e5 : decide (65 ≤ (n : Int)) = true := by simp; omega
            have e6 : decide ((n : Int) ≤ 70) = true := by simp; omega
            have q : IntKind.u8.wrap ((n : Int) - 65) = (n : Int) - 65 := IntWalk.u8_in _ (by omega)
            have q2 : IntKind.i64.wrap ((n : Int) - 65) = (n : Int) - 65 := IntWalk.i64_in _ (by omega)
            have q3 : IntKind.i64.wrap ((n : Int) - 65 + 10) = (n : Int) - 65 + 10 := IntWalk.i64_in _ (by omega)
            have hf : (n : Int) - 65 + 10 = r := by have := HR.out; rw [if_neg (by omega), if_neg (by omega), if_pos ⟨c1, c2⟩] at this; simp only at this; omega
            have HF := Lib.hid hf; clear hf a1 a2 b1 c1 c2
            go_enter Tryz.func388, Tryz.ntmps388
            go_wp2
            go_ret
            exact ⟨ret_int HF.out, rfl⟩
          · have e5 : decide (65 ≤ (n : Int)) = true := by simp; omega
            have e6 : decide ((n : Int) ≤ 70) = false := by simp; omega
            have hf : (-1 : Int) = r := by have := HR.out; rw [if_neg (by omega), if_neg (by omega), if_neg (by omega)] at this; exact this
            have HF := Lib.hid hf; clear hf a1 a2 b1 c1 c2
            go_enter Tryz.func388, Tryz.ntmps388
            go_wp2
            go_ret
            exact ⟨ret_int HF.out, rfl⟩
        · have e5 : decide (65 ≤ (n : Int)) = false := by simp; omega
          have hf : (-1 : Int) = r := by have := HR.out; rw [if_neg (by omega), if_neg (by omega), if_neg (by omega)] at this; exact this
          have HF := Lib.hid hf; clear hf a1 a2 b1 c1
          go_enter Tryz.func388, Tryz.ntmps388
          go_wp2
          go_ret
          exact ⟨ret_int HF.out, rfl⟩
  · have e1 : decide (48 ≤ (n : Int)) = false := by simp; omega
    have e3 : decide (97 ≤ (n : Int)) = false := by simp; omega
    have e5 : decide (65 ≤ (n : Int)) = false := by simp; omega
    have hf : (-1 : Int) = r := by have := HR.out; rw [if_neg (by omega), if_neg (by omega), if_neg (by omega)] at this; exact this
    have HF := Lib.hid hf; clear hf a1
    go_enter Tryz.func388, Tryz.ntmps388
    go_wp2
    go_ret
    exact ⟨ret_int HF.out, rfl⟩

theorem i64_ofInt (a : Nat) (ha : a < 9223372036854775808) : (BitVec.ofInt 64 (a : Int)).toNat = a := by
  rw [BitVec.ofInt_natCast, BitVec.toNat_ofNat]; exact Nat.mod_eq_of_lt (by omega)
theorem i64_and_nat (a b : Nat) (ha : a < 9223372036854775808) (hb : b < 9223372036854775808) : bits .and .i64 (a : Int) (b : Int) = ((a &&& b : Nat) : Int) := by
  have hx : a &&& b < 2 ^ 63 := Nat.and_lt_two_pow _ (by omega)
  show IntKind.i64.wrap ((BitVec.ofInt 64 (a : Int) &&& BitVec.ofInt 64 (b : Int)).toNat : Int) = _
  rw [BitVec.toNat_and, i64_ofInt a ha, i64_ofInt b hb]
  exact IntWalk.i64_in _ (by omega)
theorem i64_or_nat (a b : Nat) (ha : a < 9223372036854775808) (hb : b < 9223372036854775808) : bits .or .i64 (a : Int) (b : Int) = ((a ||| b : Nat) : Int) := by
  have hx : a ||| b < 2 ^ 63 := Nat.or_lt_two_pow (by omega) (by omega)
  show IntKind.i64.wrap ((BitVec.ofInt 64 (a : Int) ||| BitVec.ofInt 64 (b : Int)).toNat : Int) = _
  rw [BitVec.toNat_or, i64_ofInt a ha, i64_ofInt b hb]
  exact IntWalk.i64_in _ (by omega)
theorem and15 (m : Nat) (h : m < 9223372036854775808) : bits .and .i64 (m : Int) 15 = ((m % 16 : Nat) : Int) := by
  have := i64_and_nat m 15 h (by decide)
  rw [show ((15 : Nat) : Int) = 15 from rfl] at this
  rw [this, show (15 : Nat) = 2 ^ 4 - 1 from rfl, Nat.and_two_pow_sub_one_eq_mod]

/-- The sixteen digits. -/
abbrev hexTab : ByteArray := ⟨#[48, 49, 50, 51, 52, 53, 54, 55, 56, 57, 97, 98, 99, 100, 101, 102]⟩
theorem hexTab_at (d : Nat) (h : d < 16) : hexTab.extract d (d + 1) = ⟨#[hexDig d]⟩ := by
  have : ∀ d : Fin 16, (hexTab.extract d.val (d.val + 1)).data.toList = [hexDig d.val] := by decide
  have := this ⟨d, h⟩
  apply ByteArray.ext
  apply Array.toList_inj.1
  exact this

set_option maxRecDepth 100000 in
set_option maxHeartbeats 4000000 in
theorem zzHex (n : Nat) (hn : n < 65536) (w : World) : Calls Tryz.prog 160 #[.int .i64 n] w fun e w' => e = .returned (.string ⟨(hexs n).toArray⟩) ∧ w = w' := by
  have HN := Lib.hid hn
  have HL := Lib.hid (hexs_len 3 n (by simpa using hn)); clear hn
  go_enter Tryz.func160, Tryz.ntmps160
  go_wp2
  go_loop [0, 3, 4] (fun v0 v3 v4 => ∃ (m : Nat) (t : ByteArray) (ok : Bool), v0 = .int .i64 m ∧ v3 = .string t ∧ v4 = .bool ok ∧ m < 65536 ∧ Hid (hexs n = (if ok = true then hexs m else []) ++ t.data.toList))
    (fun v0 _ v4 => 2 * (intOf v0).toNat + (match v4 with | .bool true => 1 | _ => 0))
  case atStart => exact ⟨n, ⟨#[]⟩, true, rfl, rfl, rfl, HN.out, Lib.hid (by simp)⟩
  case round =>
    obtain ⟨m, t, ok, rfl, rfl, rfl, hm, he⟩ := hrel
    cases ok with
    | false =>
      have HT : Hid (t = ⟨(hexs n).toArray⟩) := Lib.hid (by
        have := he.out
        simp at this
        rw [this])
      clear he
      go_wp2
      go_ret
      exact ⟨congrArg (fun z => Ending.returned (.string z)) HT.out, rfl⟩
    | true =>
      have e1 := and15 m (by omega)
      have hd : m % 16 < 16 := by omega
      have hsz : t.size ≤ 4 := by
        have h := HL.out
        rw [he.out, List.length_append] at h
        have : t.data.toList.length = t.size := Array.length_toList
        omega
      have HX := Lib.hid (hexTab_at (m % 16) hd)
      generalize hq : m % 16 = d at *
      have q1 : IntKind.i64.wrap ((d : Int) + 1) = ((d + 1 : Nat) : Int) := by rw [IntWalk.i64_in _ (by omega)]; omega
      have HQ := Lib.hid hq; clear hq
      go_wp2
      refine ⟨⟨m / 16, ⟨#[hexDig d]⟩ ++ t, decide (0 < m / 16), by simp, congrArg Value.string (congrArg (· ++ t) HX.out), ?_, by omega, Lib.hid ?_⟩, ?_⟩
      · congr 1
        exact decide_eq_decide.2 (by omega)
      · have h := he.out
        rw [if_pos rfl] at h
        rw [h]
        have e3 : ((⟨#[hexDig d]⟩ : ByteArray) ++ t).data.toList = hexDig d :: t.data.toList := by
          rw [ByteArray.data_append, Array.toList_append]; rfl
        rw [e3]
        by_cases h16 : m < 16
        · have h0 : m / 16 = 0 := by omega
          have hdm : d = m := by rw [← HQ.out]; omega
          rw [hexs, if_pos h16, h0, hdm]; rfl
        · rw [hexs, if_neg h16, HQ.out, if_pos (by simp; omega)]; simp
      · have : (intOf (Value.int IntKind.i64 (m / 16))).toNat = m / 16 := by simp [intOf]; omega
        rw [this]
        have : (intOf (Value.int IntKind.i64 m)).toNat = m := by simp [intOf]
        rw [this]
        by_cases h0 : 0 < m / 16
        · have : decide (0 < (m : Int) / 16) = true := by simp; omega
          rw [this]; simp only; omega
        · have : decide (0 < (m : Int) / 16) = false := by simp; omega
          rw [this]; simp only; omega
end Go.Proofs.YtnpcmmjdojdmnaaGreatDoor
