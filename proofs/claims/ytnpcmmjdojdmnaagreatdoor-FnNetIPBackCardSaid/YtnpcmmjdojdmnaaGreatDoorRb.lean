/- zzParse6: an address of 128 bits is read. -/
import Derived.Test.YtnpcmmjdojdmnaaGreatDoorRa
import Derived.Test.YtnpcmmjdojdmnaaGreatDoorQo
import Derived.Deep.WholeRow
namespace Go.Proofs.YtnpcmmjdojdmnaaGreatDoor
open Go Go.RowKit

/-- Bytes as the cells of an array. -/
def cellsArr (l : List Nat) : Array Value := (l.map fun x => Value.int .u8 (x : Nat)).toArray
theorem cellsArr_size (l : List Nat) : (cellsArr l).size = l.length := by simp [cellsArr]
theorem cellsArr_set (l : List Nat) (i v : Nat) : (cellsArr l).setIfInBounds i (.int .u8 v) = cellsArr (l.set i v) := by
  simp [cellsArr, List.map_set]
theorem cellsArr_get (l : List Nat) (i : Nat) : (cellsArr l)[i]? = l[i]?.map fun x => Value.int .u8 (x : Nat) := by simp [cellsArr]
theorem cellsArr_one (l : List Nat) : (cellsArr l).all (·.oneCell') = true := by
  simp [cellsArr, Value.oneCell']
theorem size219 : (Tryz.prog.info? 219).map (·.size) = some 16 := by kernel_rfl

/-- The first bytes are those of the groups, the others 0. -/
def padB (gs : List Nat) : List Nat := groupBytes gs ++ List.replicate (16 - 2 * gs.length) 0
theorem padB_len (gs : List Nat) (h : gs.length ≤ 8) : (padB gs).length = 16 := by
  simp [padB, groupBytes_len]; omega
theorem groupBytes_append : ∀ (a b : List Nat), groupBytes (a ++ b) = groupBytes a ++ groupBytes b
  | [], _ => rfl
  | g :: r, b => by simp [groupBytes, groupBytes_append r b]
theorem padB_snoc (gs : List Nat) (g : Nat) (h : gs.length < 8) : ((padB gs).set (2 * gs.length) (g / 256)).set (2 * gs.length + 1) (g % 256) = padB (gs ++ [g]) := by
  have hl := groupBytes_len gs
  obtain ⟨k, hk⟩ : ∃ k, 16 - 2 * gs.length = k + 2 := ⟨14 - 2 * gs.length, by omega⟩
  have hk2 : 16 - 2 * (gs ++ [g]).length = k := by simp; omega
  rw [padB, padB, hk, hk2, groupBytes_append, ← hl, List.set_append_right _ _ (Nat.le_refl _), Nat.sub_self, List.set_append_right _ _ (by omega)]
  rw [show (groupBytes gs).length + 1 - (groupBytes gs).length = 1 by omega]
  simp [List.replicate_succ, groupBytes]

/-- Where the ellipsis stands, as a number. -/
def ellI : Option Nat → Int | none => -1 | some e => (2 * e : Nat)

theorem hexRun_step {acc off : Nat} {l : List UInt8} {r : Nat × Nat × List UInt8} (h : hexRun acc off l = some r) :
    (l = [] ∧ r = (acc, off, [])) ∨ (∃ x t, l = x :: t ∧ hexVal x = none ∧ r = (acc, off, x :: t)) ∨ (∃ x t d, l = x :: t ∧ hexVal x = some d ∧ off ≤ 3 ∧ hexRun (acc * 16 + d) (off + 1) t = some r) := by
  cases l with
  | nil => rw [hexRun] at h; exact Or.inl ⟨rfl, (Option.some.inj h).symm⟩
  | cons x t =>
    rw [hexRun] at h
    cases hx : hexVal x with
    | none => rw [hx] at h; exact Or.inr (Or.inl ⟨x, t, rfl, hx, (Option.some.inj h).symm⟩)
    | some d =>
      rw [hx] at h
      simp only at h
      split at h
      · cases h
      · exact Or.inr (Or.inr ⟨x, t, d, rfl, hx, by omega, h⟩)

theorem drop_get (s : ByteArray) (k : Nat) (h : k < s.size) : s.data.toList.drop k = s[k] :: s.data.toList.drop (k + 1) := by
  rw [List.drop_eq_getElem_cons (by rw [Array.length_toList]; exact h)]; rfl
theorem extract_list (s : ByteArray) (k : Nat) : (s.extract k s.size).data.toList = s.data.toList.drop k := by
  rw [ByteArray.data_extract, Array.toList_extract, List.extract_eq_take_drop, List.take_of_length_le]
  rw [List.length_drop, Array.length_toList]; exact Nat.le_refl _

theorem p6_step {fuel : Nat} {l : List UInt8} {gs : List Nat} {ell : Option Nat} {res : List Nat} (h : (p6 fuel l gs ell).bind expand = some res) (hg : gs.length < 8) :
    ∃ acc off rest f, hexRun 0 0 l = some (acc, off, rest) ∧ off ≠ 0 ∧
      ((rest = [] ∧ expand (gs ++ [acc], ell) = some res) ∨
       (∃ c c2 r2, rest = c :: c2 :: r2 ∧ c.toNat = 58 ∧
         ((c2.toNat ≠ 58 ∧ (p6 f (c2 :: r2) (gs ++ [acc]) ell).bind expand = some res) ∨
          (c2.toNat = 58 ∧ ell = none ∧ r2 = [] ∧ expand (gs ++ [acc], some (gs.length + 1)) = some res) ∨
          (c2.toNat = 58 ∧ ell = none ∧ r2 ≠ [] ∧ (p6 f r2 (gs ++ [acc]) (some (gs.length + 1))).bind expand = some res)))) := by
  cases fuel with
  | zero => rw [p6] at h; cases h
  | succ f =>
    rw [p6, if_neg (by omega)] at h
    cases hr : hexRun 0 0 l with
    | none => rw [hr] at h; cases h
    | some x =>
      obtain ⟨acc, off, rest⟩ := x
      rw [hr] at h
      simp only at h
      by_cases h0 : off = 0
      · rw [if_pos h0] at h; cases h
      rw [if_neg h0] at h
      refine ⟨acc, off, rest, f, rfl, h0, ?_⟩
      match rest, h with
      | [], h => exact Or.inl ⟨rfl, h⟩
      | [_], h => cases h
      | c :: c2 :: r2, h =>
        refine Or.inr ⟨c, c2, r2, rfl, ?_⟩
        simp only at h
        by_cases hc : c.toNat ≠ 58
        · rw [if_pos hc] at h; cases h
        rw [if_neg hc] at h
        refine ⟨by simpa using hc, ?_⟩
        by_cases hc2 : c2.toNat = 58
        · rw [if_pos hc2] at h
          cases ell with
          | some e => simp at h
          | none =>
            simp only [Option.isSome_none, Bool.false_eq_true, if_false] at h
            by_cases hr2 : r2 = []
            · rw [if_pos hr2] at h; exact Or.inr (Or.inl ⟨hc2, rfl, hr2, h⟩)
            · rw [if_neg hr2] at h; exact Or.inr (Or.inr ⟨hc2, rfl, hr2, h⟩)
        · rw [if_neg hc2] at h; exact Or.inl ⟨hc2, h⟩
theorem p6_full {fuel : Nat} {l : List UInt8} {gs : List Nat} {ell : Option Nat} {res : List Nat} (h : (p6 fuel l gs ell).bind expand = some res) (hg : gs.length = 8) :
    l = [] ∧ ell = none ∧ gs = res := by
  cases fuel with
  | zero => rw [p6] at h; cases h
  | succ f =>
    rw [p6, if_pos (by omega)] at h
    by_cases hl : l = []
    · rw [if_pos hl] at h
      cases ell with
      | none =>
        have h2 : expand (gs, none) = some res := h
        rw [expand, if_pos hg] at h2
        exact ⟨hl, rfl, Option.some.inj h2⟩
      | some e =>
        have h2 : expand (gs, some e) = some res := h
        rw [expand, if_neg (by omega)] at h2
        cases h2
    · rw [if_neg hl] at h; cases h
theorem expand_cases {gs : List Nat} {ell : Option Nat} {res : List Nat} (h : expand (gs, ell) = some res) :
    (ell = none ∧ gs.length = 8 ∧ gs = res) ∨ (∃ e, ell = some e ∧ gs.length < 8 ∧ res = gs.take e ++ List.replicate (8 - gs.length) 0 ++ gs.drop e) := by
  cases ell with
  | none =>
    rw [expand] at h
    split at h
    · rename_i h8; exact Or.inl ⟨rfl, h8, Option.some.inj h⟩
    · cases h
  | some e =>
    rw [expand] at h
    split at h
    · rename_i h8; exact Or.inr ⟨e, rfl, h8, (Option.some.inj h).symm⟩
    · cases h

theorem drop_cons {s : ByteArray} {k : Nat} {c : UInt8} {r : List UInt8} (h : s.data.toList.drop k = c :: r) : ∃ hk : k < s.size, s[k] = c ∧ s.data.toList.drop (k + 1) = r := by
  by_cases hk : k < s.size
  · have := drop_get s k hk
    rw [h] at this
    obtain ⟨a, b⟩ := List.cons.inj this
    exact ⟨hk, a.symm, b.symm⟩
  · rw [List.drop_of_length_le (by rw [Array.length_toList]; show s.size ≤ k; omega)] at h; cases h
theorem size_drop (s : ByteArray) (k : Nat) : (s.extract k s.size).size = s.size - k := by rw [ByteArray.size_extract]; omega
theorem extract_get (s : ByteArray) (k : Nat) (h : k < s.size) : ∃ h' : 0 < (s.extract k s.size).size, (s.extract k s.size)[0] = s[k] := by
  have h1 : 0 < (s.extract k s.size).size := by rw [size_drop]; omega
  refine ⟨h1, ?_⟩
  have e1 := drop_get (s.extract k s.size) 0 h1
  rw [List.drop_zero, extract_list, drop_get s k h] at e1
  exact (List.cons.inj e1).1.symm
theorem list16 (L : List Nat) (h : L.length = 16) : ∃ m0 m1 m2 m3 m4 m5 m6 m7 m8 m9 ma mb mc md me mf, L = [m0, m1, m2, m3, m4, m5, m6, m7, m8, m9, ma, mb, mc, md, me, mf] := by
  match L, h with
  | [m0, m1, m2, m3, m4, m5, m6, m7, m8, m9, ma, mb, mc, md, me, mf], _ => exact ⟨_, _, _, _, _, _, _, _, _, _, _, _, _, _, _, _, rfl⟩
theorem shift_law (B L M : List Nat) (n E : Nat) (hn : B.length + n = 16) (hE : E ≤ B.length)
    (hL : ∀ k, k < 16 → L[k]? = if E + n ≤ k then (B ++ List.replicate n 0)[k - n]? else (B ++ List.replicate n 0)[k]?)
    (hM : ∀ k, k < 16 → M[k]? = if E ≤ k ∧ k < E + n then some 0 else L[k]?) (hM16 : M.length = 16) : M = B.take E ++ List.replicate n 0 ++ B.drop E := by
  apply List.ext_getElem?
  intro k
  by_cases hk : k < 16
  · rw [hM k hk]
    by_cases h1 : E ≤ k ∧ k < E + n
    · rw [if_pos h1, List.append_assoc, List.getElem?_append_right (by simp; omega), List.getElem?_append_left (by simp; omega), List.getElem?_replicate, if_pos (by simp; omega)]
    · rw [if_neg h1, hL k hk]
      by_cases h2 : E + n ≤ k
      · rw [if_pos h2, List.getElem?_append_left (by omega), List.getElem?_append_right (by simp; omega), List.getElem?_drop]
        congr 1; simp; omega
      · rw [if_neg h2, List.getElem?_append_left (by omega), List.append_assoc, List.getElem?_append_left (by simp; omega), List.getElem?_take, if_pos (by omega)]
  · rw [List.getElem?_eq_none (by omega), List.getElem?_eq_none (by simp; omega)]
theorem groupBytes_take : ∀ (l : List Nat) (e : Nat), groupBytes (l.take e) = (groupBytes l).take (2 * e)
  | [], e => by simp [groupBytes]
  | g :: r, 0 => by simp [groupBytes]
  | g :: r, e + 1 => by
    rw [List.take_succ_cons, groupBytes, groupBytes, groupBytes_take r e, show 2 * (e + 1) = 2 * e + 1 + 1 by omega, List.take_succ_cons, List.take_succ_cons]
theorem groupBytes_drop : ∀ (l : List Nat) (e : Nat), groupBytes (l.drop e) = (groupBytes l).drop (2 * e)
  | [], e => by simp [groupBytes]
  | g :: r, 0 => by simp [groupBytes]
  | g :: r, e + 1 => by
    rw [List.drop_succ_cons, groupBytes, groupBytes_drop r e, show 2 * (e + 1) = 2 * e + 1 + 1 by omega, List.drop_succ_cons, List.drop_succ_cons]
theorem groupBytes_zeros : ∀ n : Nat, groupBytes (List.replicate n 0) = List.replicate (2 * n) 0
  | 0 => rfl
  | n + 1 => by rw [List.replicate_succ, groupBytes, groupBytes_zeros n, show 2 * (n + 1) = 2 * n + 1 + 1 by omega, List.replicate_succ, List.replicate_succ]
theorem groupBytes_expand {gs res : List Nat} {e : Nat} (h8 : gs.length ≤ 8) (hr : res = gs.take e ++ List.replicate (8 - gs.length) 0 ++ gs.drop e) :
    groupBytes res = (groupBytes gs).take (2 * e) ++ List.replicate (16 - 2 * gs.length) 0 ++ (groupBytes gs).drop (2 * e) := by
  rw [hr, groupBytes_append, groupBytes_append, groupBytes_take, groupBytes_drop, groupBytes_zeros]
  congr 3; omega
theorem groupBytes_len8 {gs res : List Nat} {ell : Option Nat} (h : expand (gs, ell) = some res) (he : ∀ e, ell = some e → e ≤ gs.length) : res.length = 8 := by
  rcases expand_cases h with ⟨_, h8, rfl⟩ | ⟨e, h1, h8, rfl⟩
  · exact h8
  · have := he e h1
    simp; omega

theorem results340 (tmps : Array Value) (w : World) (g : Nat) (cs : Array Value) (hp : tmps.getD 2 undef = .pointer (some ⟨g, 0, none⟩)) (h3 : tmps.getD 3 undef = .bool true) (hg : w.heap[g]? = some (.cells cs 219 (0, 0)))
    (hi : (Tryz.prog.info? 219).map (·.size) = some cs.size) : (results Tryz.f340 tmps).run Tryz.prog w = .ok (.tuple #[.agg cs, .bool true]) w := by
  have hp' : tmps[2]?.getD undef = .pointer (some ⟨g, 0, none⟩) := by simpa using hp
  have h3' : tmps[3]?.getD undef = .bool true := by simpa using h3
  simp [results, Tryz.results340, hp', h3', asAddr, run_loadVar_row w g 219 219 cs (0, 0) _ hg Tryz.underlying219 rfl hi]
theorem below_setRow {B : Nat} {a w : World} (h : Below B a w) {g : Nat} (hg : B ≤ g) (cs : Array Value) : Below B a (w.setRow g cs) :=
  h.trans ⟨rfl, rfl, rfl, by rw [setRow_size]; exact Nat.le_refl _, fun k hk => setRow_other w g k cs (by omega)⟩
theorem head_cons {b : ByteArray} {c : UInt8} {r : List UInt8} (h : b.data.toList = c :: r) : ∃ hp : 0 < b.size, b[0] = c ∧ b.size = r.length + 1 := by
  obtain ⟨hp, h0, _⟩ := drop_cons (s := b) (k := 0) (by rw [List.drop_zero]; exact h)
  refine ⟨hp, h0, ?_⟩
  have := congrArg List.length h
  rw [Array.length_toList] at this
  exact this
theorem head_nil {b : ByteArray} (h : b.data.toList = []) : b.size = 0 := by
  have := congrArg List.length h
  rw [Array.length_toList] at this
  exact this

set_option maxRecDepth 100000 in
set_option maxHeartbeats 16000000 in
theorem zzParse6_a (s : ByteArray) (res : List Nat) (hp : parse6 s.data.toList = some res) (h0 : 2 ≤ s.size) (h1 : s[0].toNat ≠ 58) (w : World) (hs : s.size ≤ 1000) :
    Calls Tryz.prog 340 #[.string s] w fun e w' => e = .returned (.tuple #[.agg (cellsArr (groupBytes res)), .bool true]) ∧ Below w.heap.size w w' := by
  have hq : (p6 9 s.data.toList [] none).bind expand = some res := by
    rw [parse6, if_neg] at hp
    · exact hp
    · intro hc
      have e := drop_get s 0 (by omega)
      rw [List.drop_zero] at e
      rw [e] at hc
      have : s[0] = 58 := by simp at hc; exact hc.1
      exact h1 (by rw [this]; rfl)
  have HP0 := Lib.hid hq; clear hp hq
  have g0 : decide (2 ≤ (s.size : Int)) = true := by simp; omega
  have g1 : ((s[0].toNat : Int) == 58) = false := by simp; omega
  clear h1
  go_enter Tryz.func340, Tryz.ntmps340
  go_wp2
  go_loopw [0, 5, 6] (fun v0 v5 v6 wr => ∃ (t : ByteArray) (gs : List Nat) (ell : Option Nat) (fuel : Nat) (i : Nat), v0 = .string t ∧ v5 = .int .i64 (ellI ell) ∧ v6 = .int .i64 i ∧ Hid (i = 2 * gs.length) ∧ i ≤ 16 ∧ t.size ≤ 1000 ∧ Hid (∀ e, ell = some e → e ≤ gs.length) ∧
      wr = (w.alloc (.cells (cellsArr [0, 0, 0, 0, 0, 0, 0, 0, 0, 0, 0, 0, 0, 0, 0, 0]) 219)).alloc (.cells (cellsArr (padB gs)) 219) ∧ Hid ((p6 fuel t.data.toList gs ell).bind expand = some res)) (fun _ _ v6 _ => 16 - (intOf v6).toNat)
  case atStart => exact ⟨s, [], none, 9, 0, rfl, rfl, rfl, Lib.hid rfl, by omega, hs, Lib.hid (fun _ h => by cases h), rfl, HP0⟩
  case round =>
    obtain ⟨t, gs, ell, fuel, i, rfl, rfl, rfl, hi, hi16, ht, hell, rfl, hq⟩ := hrel
    have hL16 : (padB gs).length = 16 := padB_len gs (by have := hi.out; omega)
    by_cases hlt : i < 16
    · obtain ⟨acc, off, rest, f, hr, hoff, hcase⟩ := p6_step hq.out (by have := hi.out; omega)
      have HC := Lib.hid hcase; clear hcase hq
      have HR := Lib.hid hr; clear hr
      have hi1 : i + 1 < 16 := by have := hi.out; omega
      have ci : decide ((i : Int) < 16) = true := by simp; omega
      have HP := Lib.hid (padB_snoc gs acc (by have := hi.out; omega))
      rw [← hi.out] at HP
      obtain ⟨x0, hx0⟩ : ∃ x0, (cellsArr (padB gs))[i]? = some (.int .u8 (x0 : Nat)) := by
        rw [cellsArr_get, List.getElem?_eq_getElem (by omega)]; exact ⟨_, rfl⟩
      obtain ⟨x1, hx1⟩ : ∃ x1, (cellsArr (padB gs))[i + 1]? = some (.int .u8 (x1 : Nat)) := by
        rw [cellsArr_get, List.getElem?_eq_getElem (by omega)]; exact ⟨_, rfl⟩
      go_wp2
      go_loop [7, 8] (fun v7 v8 => ∃ o a : Nat, v7 = .int .i64 o ∧ v8 = .int .i64 a ∧ o ≤ 4 ∧ o ≤ t.size ∧ Hid (a < 16 ^ o) ∧ Hid (hexRun a o (t.data.toList.drop o) = some (acc, off, rest))) (fun v7 _ => 5 - (intOf v7).toNat)
      case atStart => exact ⟨0, 0, rfl, rfl, by omega, by omega, Lib.hid (by decide), by rw [List.drop_zero]; exact HR⟩
      case round =>
        obtain ⟨o, a, rfl, rfl, ho4, hot, hpow, hrun⟩ := hrel
        have ha : a < 65536 := Nat.lt_of_lt_of_le hpow.out (Nat.pow_le_pow_right (by decide : 16 > 0) ho4)
        by_cases hlt2 : o < t.size
        · have hst := hexRun_step hrun.out
          rw [drop_get t o hlt2] at hst
          rcases hst with ⟨h, _⟩ | ⟨x, u, h, hv, hres⟩ | ⟨x, u, d, h, hv, ho3, hnext⟩
          · cases h
          · obtain ⟨rfl, rfl⟩ := List.cons.inj h
            obtain ⟨rfl, rfl, hrest⟩ : a = acc ∧ o = off ∧ rest = t[o] :: t.data.toList.drop (o + 1) := by
              simp at hres; exact ⟨hres.1.symm, hres.2.1.symm, hres.2.2⟩
            clear hres
            rcases HC.out with ⟨h', _⟩ | ⟨c, c2, r2, hr2, hc58, hc⟩
            · rw [hrest] at h'; cases h'
            rw [hrest] at hr2
            obtain ⟨rfl, hdrop⟩ := List.cons.inj hr2
            have D : Hid (∀ wx, Calls Tryz.prog 388 #[.int .u8 58] wx fun e w' => e = .returned (.int .i64 (-1)) ∧ wx = w') := Lib.hid fun wx => by
              have := zzDigit t[o] wx
              rw [digI_none hv, hc58] at this
              exact this
            obtain ⟨bh, hbh⟩ : ∃ b, b = a / 256 := ⟨_, rfl⟩
            obtain ⟨bl, hbl⟩ : ∃ b, b = a % 256 := ⟨_, rfl⟩
            obtain ⟨k2, hk2⟩ : ∃ k, k = i + 2 := ⟨_, rfl⟩
            have w1 : IntKind.u8.wrap ((a : Int) / 256) = (bh : Int) := by rw [IntWalk.u8_in _ (by omega)]; omega
            have w2 : IntKind.u8.wrap (a : Int) = (bl : Int) := by rw [hbl]; simp [IntKind.wrap, IntKind.bits, IntKind.signed]
            have i1 : IntKind.i64.wrap ((i : Int) + 1) = (i : Int) + 1 := IntWalk.i64_in _ (by omega)
            have i2 : IntKind.i64.wrap ((i : Int) + 2) = (k2 : Int) := by rw [IntWalk.i64_in _ (by omega)]; omega
            have i3 : (i : Int) < 16 := by omega
            have i4 : (i : Int) + 1 < 16 := by omega
            have i5 : ((i : Int) + 1).toNat = i + 1 := by omega
            have hne : ¬ i = i + 1 := by omega
            have s1 : (cellsArr (padB gs)).setIfInBounds i (.int .u8 bh) = cellsArr ((padB gs).set i bh) := cellsArr_set _ _ _
            have s2 : (cellsArr ((padB gs).set i bh)).setIfInBounds (i + 1) (.int .u8 bl) = cellsArr (padB (gs ++ [a])) := by
              rw [cellsArr_set, ← HP.out, hbh, hbl]
            have s3 : (cellsArr ((padB gs).set i bh))[i + 1]? = some (.int .u8 x1) := by
              rw [cellsArr_get, List.getElem?_set_ne (by omega), ← cellsArr_get]; exact hx1
            have HK : Hid (k2 = 2 * (gs ++ [a]).length) := Lib.hid (by have := hi.out; simp; omega)
            have hk16 : k2 ≤ 16 := by omega
            have oz : ((o : Int) == 0) = false := by simp; omega
            have HK2 := Lib.hid hk2
            clear hbh hbl hx1 hrun hpow hk2
            obtain ⟨T1, hT1, l1⟩ : ∃ T, t.extract o t.size = T ∧ T.data.toList = t[o] :: c2 :: r2 := ⟨_, rfl, by rw [extract_list, drop_get t o hlt2, hdrop]⟩
            obtain ⟨g1, g2, g3⟩ := head_cons l1
            have y1 : T1[0].toNat = 58 := by rw [g2, hc58]
            have y2 : ((T1.size : Int) == 0) = false := by rw [beq_eq_false_iff_ne]; omega
            have y3 : ((T1.size : Int) == 1) = false := by rw [List.length_cons] at g3; rw [beq_eq_false_iff_ne]; omega
            have y4 : 1 ≤ (T1.size : Int) := by omega
            have y5 : t[o].toNat = 58 := hc58
            obtain ⟨T2, hT2, l2⟩ : ∃ T, T1.extract 1 T1.size = T ∧ T.data.toList = c2 :: r2 := ⟨_, rfl, by rw [extract_list, l1]; rfl⟩
            obtain ⟨g4, g5, g6⟩ := head_cons l2
            have y6 : 1 ≤ (T2.size : Int) := by omega
            obtain ⟨T3, hT3, l3⟩ : ∃ T, T2.extract 1 T2.size = T ∧ T.data.toList = r2 := ⟨_, rfl, by rw [extract_list, l2]; rfl⟩
            have HSZ : Hid (T2.size ≤ 1000 ∧ T3.size ≤ 1000) := Lib.hid (by
              have e1 := size_drop t o
              have e2 := size_drop T1 1
              have e3 := size_drop T2 1
              rw [hT1] at e1; rw [hT2] at e2; rw [hT3] at e3
              omega)
            have HL := Lib.hid (And.intro l2 l3)
            clear g3 l1 l2 hdrop hr2 hrest hv h HR hoff g2
            rcases hc with ⟨hn58, hnx⟩ | ⟨h58, rfl, rfl, hex⟩ | ⟨h58, rfl, hr0, hnx⟩
            · have y7 : ((T2[0].toNat : Int) == 58) = false := by rw [g5]; simp; omega
              clear g5 g6 l3 hT3 hc58
              go_wp2_with (go_at_call 388; with_reducible refine (D.out _).mono ?_; rintro e w2 ⟨rfl, rfl⟩)
              go_wp2
              have hk2 := HK2.out
              refine ⟨⟨T2, gs ++ [a], ell, f, k2, rfl, rfl, rfl, HK, hk16, HSZ.out.1, Lib.hid (fun e he => by have := hell.out e he; simp; omega), rfl, by rw [HL.out.1]; exact Lib.hid hnx⟩, by simp [intOf]; omega⟩
            · have y7 : T2[0].toNat = 58 := by rw [g5, h58]
              have z3 : T3.size = 0 := head_nil l3
              have he : ellI none = -1 := rfl
              obtain ⟨e, hee⟩ : ∃ e, e = gs.length + 1 := ⟨_, rfl⟩
              have HX : Hid (expand (gs ++ [a], some e) = some res) := by rw [hee]; exact Lib.hid hex
              have HE2 : Hid (e ≤ (gs ++ [a]).length) := Lib.hid (by rw [hee]; simp)
              have HEQ : Hid (k2 = 2 * e) := Lib.hid (by have := HK.out; rw [hee]; simpa using this)
              clear g5 g6 l3 hc58 h58 hex hee hell
              obtain ⟨hres, h8⟩ : res = (gs ++ [a]).take e ++ List.replicate (8 - (gs ++ [a]).length) 0 ++ (gs ++ [a]).drop e ∧ (gs ++ [a]).length < 8 := by
                rcases expand_cases HX.out with ⟨h, _⟩ | ⟨e', h1, h2, h3⟩
                · cases h
                · obtain rfl := Option.some.inj h1; exact ⟨h3, h2⟩
              have HG : Hid (groupBytes res = (groupBytes (gs ++ [a])).take (2 * e) ++ List.replicate (16 - 2 * (gs ++ [a]).length) 0 ++ (groupBytes (gs ++ [a])).drop (2 * e)) := Lib.hid (groupBytes_expand (by omega) hres)
              have hP16 : (padB (gs ++ [a])).length = 16 := padB_len _ (by omega)
              have hk3 : k2 < 16 := by have := HK.out; omega
              have hE : k2 = 2 * e := HEQ.out
              have hEk : k2 ≤ k2 := by have := HK.out; have := HE2.out; omega
              have HEE := Lib.hid hE
              obtain ⟨n, hn⟩ : ∃ n, k2 + n = 16 := ⟨16 - k2, by omega⟩
              obtain ⟨En, hEn⟩ : ∃ z, z = k2 + n := ⟨_, rfl⟩
              have c38 : decide ((k2 : Int) < 16) = true := by simp; omega
              have c39 : decide ((k2 : Int) < 0) = false := by simp
              have p1 : IntKind.i64.wrap (16 - (k2 : Int)) = (n : Int) := by rw [IntWalk.i64_in _ (by omega)]; omega
              have p2 : IntKind.i64.wrap ((k2 : Int) - 1) = (k2 : Int) - 1 := IntWalk.i64_in _ (by omega)
              have p3 : IntKind.i64.wrap ((k2 : Int) + (n : Int)) = (En : Int) := by rw [IntWalk.i64_in _ (by omega)]; omega
              have HN := Lib.hid (And.intro hn hEn)
              clear hres h8 hE hn hEn
              go_wp2_with (go_at_call 388; with_reducible refine (D.out _).mono ?_; rintro e w2 ⟨rfl, rfl⟩)
              go_loopw [10] (fun v10 wr => ∃ (z : Int) (J : Nat) (L : List Nat), v10 = .int .i64 z ∧ Hid (z = J - 1) ∧ k2 ≤ J ∧ J ≤ k2 ∧ L.length = 16 ∧ wr = (w.alloc (.cells (cellsArr [0, 0, 0, 0, 0, 0, 0, 0, 0, 0, 0, 0, 0, 0, 0, 0]) 219)).alloc (.cells (cellsArr L) 219) ∧
                  Hid (∀ k, k < 16 → L[k]? = if J + n ≤ k then (padB (gs ++ [a]))[k - n]? else (padB (gs ++ [a]))[k]?)) (fun v10 _ => (intOf v10 + 1).toNat)
              case atStart => exact ⟨_, k2, _, rfl, Lib.hid rfl, hEk, Nat.le_refl _, hP16, rfl, Lib.hid (fun k hk => by rw [if_neg (by have := HN.out; omega)])⟩
              case round =>
                obtain ⟨z, J, L, rfl, hz, hJ1, hJ2, hL, rfl, hLk⟩ := hrel
                by_cases hJ : k2 < J
                · omega
                · obtain rfl : k2 = J := by omega
                  have r0 : decide ((k2 : Int) ≤ z) = false := by have := hz.out; simp; omega
                  have r00 : ¬ (k2 : Int) ≤ z := by have := hz.out; omega
                  clear hJ
                  go_wp2
                  go_loopw [11] (fun v11 wr => ∃ (K : Nat) (M : List Nat), v11 = .int .i64 K ∧ k2 ≤ K ∧ K ≤ En ∧ M.length = 16 ∧ wr = (w.alloc (.cells (cellsArr [0, 0, 0, 0, 0, 0, 0, 0, 0, 0, 0, 0, 0, 0, 0, 0]) 219)).alloc (.cells (cellsArr M) 219) ∧
                      Hid (∀ k, k < 16 → M[k]? = if k2 ≤ k ∧ k < K then some 0 else L[k]?)) (fun v11 _ => 16 - (intOf v11).toNat)
                  case atStart => exact ⟨k2, L, rfl, Nat.le_refl _, by have := HN.out; omega, hL, rfl, Lib.hid (fun k hk => by rw [if_neg (by omega)])⟩
                  case round =>
                    obtain ⟨K, M, rfl, hK1, hK2, hL16, rfl, hMk⟩ := hrel
                    have hN := HN.out
                    by_cases hK : K < En
                    · obtain ⟨y2, hy2⟩ : ∃ y, M[K]? = some y := by rw [List.getElem?_eq_getElem (by omega)]; exact ⟨_, rfl⟩
                      have v2 : (cellsArr M)[K]? = some (.int .u8 y2) := by rw [cellsArr_get, hy2]; rfl
                      have v3 : (cellsArr M).setIfInBounds K (.int .u8 0) = cellsArr (M.set K 0) := cellsArr_set _ _ 0
                      have r3 : (K : Int) < 16 := by omega
                      have r5 : decide ((K : Int) < (En : Int)) = true := by simp; omega
                      clear hy2 hN
                      go_wp2
                      have hN := HN.out
                      refine ⟨⟨K + 1, M.set K 0, by go_num, by omega, by omega, by simp [hL16], rfl, Lib.hid ?_⟩, by simp [intOf]; omega⟩
                      intro k hk
                      rw [List.getElem?_set]
                      by_cases hkj : K = k
                      · rw [if_pos hkj, if_pos (by omega), if_pos (by omega)]
                      · rw [if_neg hkj, hMk.out k hk]
                        by_cases h : k2 ≤ k ∧ k < K
                        · rw [if_pos h, if_pos (by omega)]
                        · rw [if_neg h, if_neg (by omega)]
                    · have hKE : K = En := by omega
                      have r5 : decide ((K : Int) < (En : Int)) = false := by simp; omega
                      have r50 : ¬ K < En := by omega
                      have HB : Hid (groupBytes res = M) := Lib.hid (by
                        have hB : (groupBytes (gs ++ [a])).length = k2 := by rw [groupBytes_len, HK.out]
                        rw [HG.out]
                        have hpad : padB (gs ++ [a]) = groupBytes (gs ++ [a]) ++ List.replicate n 0 := by rw [padB]; congr 2; have := HK.out; omega
                        rw [hpad] at hLk
                        have := shift_law (groupBytes (gs ++ [a])) L M n k2 (by omega) (by omega) hLk.out (by rw [← hN.2, ← hKE]; exact hMk.out) hL16
                        rw [this, HEE.out]
                        congr 3; have := HK.out; omega)
                      clear hK hLk hMk hKE hN
                      have HLD : Hid (((w.alloc (.cells (cellsArr [0, 0, 0, 0, 0, 0, 0, 0, 0, 0, 0, 0, 0, 0, 0, 0]) 219)).alloc (.cells (cellsArr M) 219)).heap[w.heap.size + 1]? = some (.cells (cellsArr M) 219 (0, 0))) := Lib.hid (heap_alloc2_new w _ _)
                      have HST : Hid (((w.alloc (.cells (cellsArr [0, 0, 0, 0, 0, 0, 0, 0, 0, 0, 0, 0, 0, 0, 0, 0]) 219)).alloc (.cells (cellsArr M) 219)).heap[w.heap.size]? = some (.cells (cellsArr [0, 0, 0, 0, 0, 0, 0, 0, 0, 0, 0, 0, 0, 0, 0, 0]) 219 (0, 0))) := Lib.hid (heap_alloc2_old w _ _)
                      have HSZ : Hid ((Tryz.prog.info? 219).map (·.size) = some (cellsArr M).size) := Lib.hid (by rw [cellsArr_size, hL16]; exact size219)
                      have HS2 : Hid ((cellsArr [0, 0, 0, 0, 0, 0, 0, 0, 0, 0, 0, 0, 0, 0, 0, 0]).size = (cellsArr M).size) := Lib.hid (by rw [cellsArr_size, cellsArr_size, hL16]; rfl)
                      have HS3 : Hid ((((w.alloc (.cells (cellsArr [0, 0, 0, 0, 0, 0, 0, 0, 0, 0, 0, 0, 0, 0, 0, 0]) 219)).alloc (.cells (cellsArr M) 219)).setRow w.heap.size (cellsArr M)).heap[w.heap.size]? = some (.cells (cellsArr M) 219 (0, 0))) := Lib.hid (setRow_heap _ _ _ _ _ _ HST.out)
                      go_wp2_with (first | (refine wpList_load_row rfl 219 (.tmp 4) rfl (w.heap.size + 1) rfl 219 _ (0, 0) _ HLD.out Tryz.underlying219 rfl HSZ.out ?_) | (refine wpList_store_row rfl 219 (.tmp 2) (.tmp 171) rfl w.heap.size _ rfl rfl 219 _ HST.out HSZ.out HS2.out (cellsArr_one _) ?_))
                      refine bodyPost_ret (v := .tuple #[.agg _, .bool true]) (results340 _ _ _ _ rfl rfl HS3.out HSZ.out) rfl ⟨by rw [HB.out], ?_⟩
                      exact below_setRow (((Below.refl _ _).alloc (Nat.le_refl _) _).alloc (by simp) _) (Nat.le_refl _) _
            · have y7 : T2[0].toNat = 58 := by rw [g5, h58]
              have z3 : ((T3.size : Int) == 0) = false := by
                have : T3.size ≠ 0 := fun h => hr0 (by rw [← l3]; exact List.eq_nil_of_length_eq_zero (by rw [Array.length_toList]; exact h))
                rw [beq_eq_false_iff_ne]; omega
              have he : ellI none = -1 := rfl
              clear g5 g6 l3 hc58 h58 hr0
              go_wp2_with (go_at_call 388; with_reducible refine (D.out _).mono ?_; rintro e w2 ⟨rfl, rfl⟩)
              go_wp2
              have hk2 := HK2.out
              refine ⟨⟨T3, gs ++ [a], some (gs.length + 1), f, k2, rfl, by rw [ellI]; congr 1; have := HK.out; simp at this ⊢; omega, rfl, HK, hk16, HSZ.out.2, Lib.hid (fun e he => by obtain rfl := Option.some.inj he; simp), rfl, by rw [HL.out.2]; exact Lib.hid hnx⟩, by simp [intOf]; omega⟩
          · obtain ⟨rfl, rfl⟩ := List.cons.inj h
            have D : Hid (∀ wx, Calls Tryz.prog 388 #[.int .u8 t[o].toNat] wx fun e w' => e = .returned (.int .i64 (d : Nat)) ∧ wx = w') := Lib.hid fun wx => by
              have := zzDigit t[o] wx
              rwa [digI_some hv] at this
            have hd := hexVal_lt hv
            have HN := Lib.hid hnext; clear hnext hv h
            have q1 : IntKind.i64.wrap ((a : Int) * 16) = (a : Int) * 16 := IntWalk.i64_in _ (by omega)
            have q2 : IntKind.i64.wrap ((a : Int) * 16 + d) = ((a * 16 + d : Nat) : Int) := by rw [IntWalk.i64_in _ (by omega)]; omega
            have q3 : decide (3 < (o : Int)) = false := by simp; omega
            go_wp2_with (go_at_call 388; with_reducible refine (D.out _).mono ?_; rintro e w2 ⟨rfl, rfl⟩)
            refine ⟨⟨o + 1, a * 16 + d, by go_num, rfl, by omega, by omega, Lib.hid ?_, HN⟩, by simp [intOf]; omega⟩
            have := hpow.out
            rw [Nat.pow_succ]; omega
        · have hos : o = t.size := by omega
          have hst := hexRun_step hrun.out
          rw [List.drop_of_length_le (by rw [Array.length_toList]; show t.size ≤ o; omega)] at hst
          rcases hst with ⟨_, hres⟩ | ⟨x, u, h, _⟩ | ⟨x, u, d, h, _⟩
          rotate_left
          · cases h
          · cases h
          obtain ⟨rfl, rfl, rfl⟩ : a = acc ∧ o = off ∧ rest = [] := by
            simp at hres; exact ⟨hres.1.symm, hres.2.1.symm, hres.2.2⟩
          clear hres
          rcases HC.out with ⟨_, hex⟩ | ⟨c, c2, r2, h, _⟩
          rotate_left
          · cases h
          have HX := Lib.hid hex
          have olt : decide ((o : Int) < (t.size : Int)) = false := by simp; omega
          obtain ⟨bh, hbh⟩ : ∃ b, b = a / 256 := ⟨_, rfl⟩
          obtain ⟨bl, hbl⟩ : ∃ b, b = a % 256 := ⟨_, rfl⟩
          obtain ⟨k2, hk2⟩ : ∃ k, k = i + 2 := ⟨_, rfl⟩
          have w1 : IntKind.u8.wrap ((a : Int) / 256) = (bh : Int) := by rw [IntWalk.u8_in _ (by omega)]; omega
          have w2 : IntKind.u8.wrap (a : Int) = (bl : Int) := by rw [hbl]; simp [IntKind.wrap, IntKind.bits, IntKind.signed]
          have i1 : IntKind.i64.wrap ((i : Int) + 1) = (i : Int) + 1 := IntWalk.i64_in _ (by omega)
          have i2 : IntKind.i64.wrap ((i : Int) + 2) = (k2 : Int) := by rw [IntWalk.i64_in _ (by omega)]; omega
          have i3 : (i : Int) < 16 := by omega
          have i4 : (i : Int) + 1 < 16 := by omega
          have i5 : ((i : Int) + 1).toNat = i + 1 := by omega
          have hne : ¬ i = i + 1 := by omega
          have s1 : (cellsArr (padB gs)).setIfInBounds i (.int .u8 bh) = cellsArr ((padB gs).set i bh) := cellsArr_set _ _ _
          have s2 : (cellsArr ((padB gs).set i bh)).setIfInBounds (i + 1) (.int .u8 bl) = cellsArr (padB (gs ++ [a])) := by
            rw [cellsArr_set, ← HP.out, hbh, hbl]
          have s3 : (cellsArr ((padB gs).set i bh))[i + 1]? = some (.int .u8 x1) := by
            rw [cellsArr_get, List.getElem?_set_ne (by omega), ← cellsArr_get]; exact hx1
          have HK : Hid (k2 = 2 * (gs ++ [a]).length) := Lib.hid (by have := hi.out; simp; omega)
          have hk16 : k2 ≤ 16 := by omega
          have oz : ((o : Int) == 0) = false := by simp; omega
          have HK2 := Lib.hid hk2
          clear hbh hbl hx1 hrun hpow hk2
          obtain ⟨T1, hT1, z0⟩ : ∃ T, t.extract o t.size = T ∧ T.size = 0 := ⟨_, rfl, by rw [size_drop]; omega⟩
          clear hos hoff HR
          rcases expand_cases hex with ⟨hell0, h8, hres⟩ | ⟨e, hell1, _, _⟩
          · obtain rfl := hell0
            have c38 : ¬ k2 < 16 := by have := HK.out; omega
            have he : ellI none = -1 := rfl
            have hL16 := padB_len (gs ++ [a]) (by omega)
            have HB : Hid (groupBytes res = padB (gs ++ [a])) := Lib.hid (by rw [← hres, padB, h8]; simp)
            clear hres h8 hex HX hell
            have HLD : Hid (((w.alloc (.cells (cellsArr [0, 0, 0, 0, 0, 0, 0, 0, 0, 0, 0, 0, 0, 0, 0, 0]) 219)).alloc (.cells (cellsArr (padB (gs ++ [a]))) 219)).heap[w.heap.size + 1]? = some (.cells (cellsArr (padB (gs ++ [a]))) 219 (0, 0))) := Lib.hid (heap_alloc2_new w _ _)
            have HST : Hid (((w.alloc (.cells (cellsArr [0, 0, 0, 0, 0, 0, 0, 0, 0, 0, 0, 0, 0, 0, 0, 0]) 219)).alloc (.cells (cellsArr (padB (gs ++ [a]))) 219)).heap[w.heap.size]? = some (.cells (cellsArr [0, 0, 0, 0, 0, 0, 0, 0, 0, 0, 0, 0, 0, 0, 0, 0]) 219 (0, 0))) := Lib.hid (heap_alloc2_old w _ _)
            have HSZ : Hid ((Tryz.prog.info? 219).map (·.size) = some (cellsArr (padB (gs ++ [a]))).size) := Lib.hid (by rw [cellsArr_size, hL16]; exact size219)
            have HS2 : Hid ((cellsArr [0, 0, 0, 0, 0, 0, 0, 0, 0, 0, 0, 0, 0, 0, 0, 0]).size = (cellsArr (padB (gs ++ [a]))).size) := Lib.hid (by rw [cellsArr_size, cellsArr_size, hL16]; rfl)
            have HS3 : Hid ((((w.alloc (.cells (cellsArr [0, 0, 0, 0, 0, 0, 0, 0, 0, 0, 0, 0, 0, 0, 0, 0]) 219)).alloc (.cells (cellsArr (padB (gs ++ [a]))) 219)).setRow w.heap.size (cellsArr (padB (gs ++ [a])))).heap[w.heap.size]? = some (.cells (cellsArr (padB (gs ++ [a]))) 219 (0, 0))) := Lib.hid (setRow_heap _ _ _ _ _ _ HST.out)
            go_wp2_with (first | (refine wpList_load_row rfl 219 (.tmp 4) rfl (w.heap.size + 1) rfl 219 _ (0, 0) _ HLD.out Tryz.underlying219 rfl HSZ.out ?_) | (refine wpList_store_row rfl 219 (.tmp 2) (.tmp 171) rfl w.heap.size _ rfl rfl 219 _ HST.out HSZ.out HS2.out (cellsArr_one _) ?_))
            refine bodyPost_ret (v := .tuple #[.agg _, .bool true]) (results340 _ _ _ _ rfl rfl HS3.out HSZ.out) rfl ⟨by rw [HB.out], ?_⟩
            exact below_setRow (((Below.refl _ _).alloc (Nat.le_refl _) _).alloc (by simp) _) (Nat.le_refl _) _
          · obtain rfl := hell1
            have HE2 : Hid (e ≤ (gs ++ [a]).length) := Lib.hid (by have := hell.out e rfl; simp; omega)
            clear hex hell
            obtain ⟨hres, h8⟩ : res = (gs ++ [a]).take e ++ List.replicate (8 - (gs ++ [a]).length) 0 ++ (gs ++ [a]).drop e ∧ (gs ++ [a]).length < 8 := by
              rcases expand_cases HX.out with ⟨h, _⟩ | ⟨e', h1, h2, h3⟩
              · cases h
              · obtain rfl := Option.some.inj h1; exact ⟨h3, h2⟩
            have HG : Hid (groupBytes res = (groupBytes (gs ++ [a])).take (2 * e) ++ List.replicate (16 - 2 * (gs ++ [a]).length) 0 ++ (groupBytes (gs ++ [a])).drop (2 * e)) := Lib.hid (groupBytes_expand (by omega) hres)
            have hP16 : (padB (gs ++ [a])).length = 16 := padB_len _ (by omega)
            have hk3 : k2 < 16 := by have := HK.out; omega
            obtain ⟨E, hE⟩ : ∃ E, E = 2 * e := ⟨_, rfl⟩
            have hEk : E ≤ k2 := by have := HK.out; have := HE2.out; omega
            have HEE := Lib.hid hE
            have hEi : ellI (some e) = (E : Int) := by rw [ellI, hE]
            obtain ⟨n, hn⟩ : ∃ n, k2 + n = 16 := ⟨16 - k2, by omega⟩
            obtain ⟨En, hEn⟩ : ∃ z, z = E + n := ⟨_, rfl⟩
            have c38 : decide ((k2 : Int) < 16) = true := by simp; omega
            have c39 : decide ((E : Int) < 0) = false := by simp
            have p1 : IntKind.i64.wrap (16 - (k2 : Int)) = (n : Int) := by rw [IntWalk.i64_in _ (by omega)]; omega
            have p2 : IntKind.i64.wrap ((k2 : Int) - 1) = (k2 : Int) - 1 := IntWalk.i64_in _ (by omega)
            have p3 : IntKind.i64.wrap ((E : Int) + (n : Int)) = (En : Int) := by rw [IntWalk.i64_in _ (by omega)]; omega
            have HN := Lib.hid (And.intro hn hEn)
            clear hres h8 hE hn hEn
            go_wp2
            go_loopw [10] (fun v10 wr => ∃ (z : Int) (J : Nat) (L : List Nat), v10 = .int .i64 z ∧ Hid (z = J - 1) ∧ E ≤ J ∧ J ≤ k2 ∧ L.length = 16 ∧ wr = (w.alloc (.cells (cellsArr [0, 0, 0, 0, 0, 0, 0, 0, 0, 0, 0, 0, 0, 0, 0, 0]) 219)).alloc (.cells (cellsArr L) 219) ∧
                Hid (∀ k, k < 16 → L[k]? = if J + n ≤ k then (padB (gs ++ [a]))[k - n]? else (padB (gs ++ [a]))[k]?)) (fun v10 _ => (intOf v10 + 1).toNat)
            case atStart => exact ⟨_, k2, _, rfl, Lib.hid rfl, hEk, Nat.le_refl _, hP16, rfl, Lib.hid (fun k hk => by rw [if_neg (by have := HN.out; omega)])⟩
            case round =>
              obtain ⟨z, J, L, rfl, hz, hJ1, hJ2, hL, rfl, hLk⟩ := hrel
              by_cases hJ : E < J
              · obtain ⟨j, rfl⟩ : ∃ j, J = j + 1 := ⟨J - 1, by omega⟩
                obtain rfl : z = (j : Int) := by have := hz.out; omega
                have hN := HN.out
                obtain ⟨jn, hjn⟩ : ∃ k, k = j + n := ⟨_, rfl⟩
                obtain ⟨y1, hy1⟩ : ∃ y, L[j]? = some y := by rw [List.getElem?_eq_getElem (by omega)]; exact ⟨_, rfl⟩
                obtain ⟨y2, hy2⟩ : ∃ y, L[jn]? = some y := by rw [List.getElem?_eq_getElem (by omega)]; exact ⟨_, rfl⟩
                have v1 : (cellsArr L)[j]? = some (.int .u8 y1) := by rw [cellsArr_get, hy1]; rfl
                have v2 : (cellsArr L)[jn]? = some (.int .u8 y2) := by rw [cellsArr_get, hy2]; rfl
                have v3 : (cellsArr L).setIfInBounds jn (.int .u8 y1) = cellsArr (L.set jn y1) := cellsArr_set _ _ _
                have r0 : decide ((E : Int) ≤ (j : Int)) = true := by simp; omega
                have r1 : IntKind.i64.wrap ((j : Int) + (n : Int)) = (jn : Int) := by rw [IntWalk.i64_in _ (by omega)]; omega
                have r2 : IntKind.i64.wrap ((j : Int) - 1) = (j : Int) - 1 := IntWalk.i64_in _ (by omega)
                have r3 : (j : Int) < 16 := by omega
                have r4 : (jn : Int) < 16 := by omega
                have HY := Lib.hid (And.intro hy1 hjn); clear hy1 hy2 hjn hN
                go_wp2
                have hjn := HY.out.2
                have hN := HN.out
                refine ⟨⟨_, j, L.set jn y1, rfl, Lib.hid rfl, by omega, by omega, by simp [hL], rfl, Lib.hid ?_⟩, by first | (simp [intOf]; done) | (simp [intOf]; omega)⟩
                intro k hk
                rw [List.getElem?_set]
                by_cases hkj : jn = k
                · rw [if_pos hkj, if_pos (by omega), if_pos (by omega), show k - n = j by omega]
                  have := hLk.out j (by omega)
                  rw [if_neg (by omega)] at this
                  rw [← this, HY.out.1]
                · rw [if_neg hkj, hLk.out k hk]
                  by_cases h : j + 1 + n ≤ k
                  · rw [if_pos h, if_pos (by omega)]
                  · rw [if_neg h, if_neg (by omega)]
              · obtain rfl : E = J := by omega
                have r0 : decide ((E : Int) ≤ z) = false := by have := hz.out; simp; omega
                have r00 : ¬ (E : Int) ≤ z := by have := hz.out; omega
                clear hJ
                go_wp2
                go_loopw [11] (fun v11 wr => ∃ (K : Nat) (M : List Nat), v11 = .int .i64 K ∧ E ≤ K ∧ K ≤ En ∧ M.length = 16 ∧ wr = (w.alloc (.cells (cellsArr [0, 0, 0, 0, 0, 0, 0, 0, 0, 0, 0, 0, 0, 0, 0, 0]) 219)).alloc (.cells (cellsArr M) 219) ∧
                    Hid (∀ k, k < 16 → M[k]? = if E ≤ k ∧ k < K then some 0 else L[k]?)) (fun v11 _ => 16 - (intOf v11).toNat)
                case atStart => exact ⟨E, L, rfl, Nat.le_refl _, by have := HN.out; omega, hL, rfl, Lib.hid (fun k hk => by rw [if_neg (by omega)])⟩
                case round =>
                  obtain ⟨K, M, rfl, hK1, hK2, hL16, rfl, hMk⟩ := hrel
                  have hN := HN.out
                  by_cases hK : K < En
                  · obtain ⟨y2, hy2⟩ : ∃ y, M[K]? = some y := by rw [List.getElem?_eq_getElem (by omega)]; exact ⟨_, rfl⟩
                    have v2 : (cellsArr M)[K]? = some (.int .u8 y2) := by rw [cellsArr_get, hy2]; rfl
                    have v3 : (cellsArr M).setIfInBounds K (.int .u8 0) = cellsArr (M.set K 0) := cellsArr_set _ _ 0
                    have r3 : (K : Int) < 16 := by omega
                    have r5 : decide ((K : Int) < (En : Int)) = true := by simp; omega
                    clear hy2 hN
                    go_wp2
                    have hN := HN.out
                    refine ⟨⟨K + 1, M.set K 0, by go_num, by omega, by omega, by simp [hL16], rfl, Lib.hid ?_⟩, by simp [intOf]; omega⟩
                    intro k hk
                    rw [List.getElem?_set]
                    by_cases hkj : K = k
                    · rw [if_pos hkj, if_pos (by omega), if_pos (by omega)]
                    · rw [if_neg hkj, hMk.out k hk]
                      by_cases h : E ≤ k ∧ k < K
                      · rw [if_pos h, if_pos (by omega)]
                      · rw [if_neg h, if_neg (by omega)]
                  · have hKE : K = En := by omega
                    have r5 : decide ((K : Int) < (En : Int)) = false := by simp; omega
                    have r50 : ¬ K < En := by omega
                    have HB : Hid (groupBytes res = M) := Lib.hid (by
                      have hB : (groupBytes (gs ++ [a])).length = k2 := by rw [groupBytes_len, HK.out]
                      rw [HG.out]
                      have hpad : padB (gs ++ [a]) = groupBytes (gs ++ [a]) ++ List.replicate n 0 := by rw [padB]; congr 2; have := HK.out; omega
                      rw [hpad] at hLk
                      have := shift_law (groupBytes (gs ++ [a])) L M n E (by omega) (by omega) hLk.out (by rw [← hN.2, ← hKE]; exact hMk.out) hL16
                      rw [this, HEE.out]
                      congr 3; have := HK.out; omega)
                    clear hK hLk hMk hKE hN
                    have HLD : Hid (((w.alloc (.cells (cellsArr [0, 0, 0, 0, 0, 0, 0, 0, 0, 0, 0, 0, 0, 0, 0, 0]) 219)).alloc (.cells (cellsArr M) 219)).heap[w.heap.size + 1]? = some (.cells (cellsArr M) 219 (0, 0))) := Lib.hid (heap_alloc2_new w _ _)
                    have HST : Hid (((w.alloc (.cells (cellsArr [0, 0, 0, 0, 0, 0, 0, 0, 0, 0, 0, 0, 0, 0, 0, 0]) 219)).alloc (.cells (cellsArr M) 219)).heap[w.heap.size]? = some (.cells (cellsArr [0, 0, 0, 0, 0, 0, 0, 0, 0, 0, 0, 0, 0, 0, 0, 0]) 219 (0, 0))) := Lib.hid (heap_alloc2_old w _ _)
                    have HSZ : Hid ((Tryz.prog.info? 219).map (·.size) = some (cellsArr M).size) := Lib.hid (by rw [cellsArr_size, hL16]; exact size219)
                    have HS2 : Hid ((cellsArr [0, 0, 0, 0, 0, 0, 0, 0, 0, 0, 0, 0, 0, 0, 0, 0]).size = (cellsArr M).size) := Lib.hid (by rw [cellsArr_size, cellsArr_size, hL16]; rfl)
                    have HS3 : Hid ((((w.alloc (.cells (cellsArr [0, 0, 0, 0, 0, 0, 0, 0, 0, 0, 0, 0, 0, 0, 0, 0]) 219)).alloc (.cells (cellsArr M) 219)).setRow w.heap.size (cellsArr M)).heap[w.heap.size]? = some (.cells (cellsArr M) 219 (0, 0))) := Lib.hid (setRow_heap _ _ _ _ _ _ HST.out)
                    go_wp2_with (first | (refine wpList_load_row rfl 219 (.tmp 4) rfl (w.heap.size + 1) rfl 219 _ (0, 0) _ HLD.out Tryz.underlying219 rfl HSZ.out ?_) | (refine wpList_store_row rfl 219 (.tmp 2) (.tmp 171) rfl w.heap.size _ rfl rfl 219 _ HST.out HSZ.out HS2.out (cellsArr_one _) ?_))
                    refine bodyPost_ret (v := .tuple #[.agg _, .bool true]) (results340 _ _ _ _ rfl rfl HS3.out HSZ.out) rfl ⟨by rw [HB.out], ?_⟩
                    exact below_setRow (((Below.refl _ _).alloc (Nat.le_refl _) _).alloc (by simp) _) (Nat.le_refl _) _
    · have h8 : gs.length = 8 := by have := hi.out; omega
      obtain ⟨ht0, rfl, hres⟩ := p6_full hq.out h8
      have hts : t.size = 0 := by
        have h : t.data.toList.length = 0 := by rw [ht0]; rfl
        rw [Array.length_toList] at h; exact h
      obtain rfl : i = 16 := by omega
      have HB : Hid (groupBytes res = padB gs) := Lib.hid (by rw [padB, h8, hres]; simp)
      have he : ellI none = -1 := rfl
      clear hres h8 hlt hi ht0 hell hq
      have HLD : Hid (((w.alloc (.cells (cellsArr [0, 0, 0, 0, 0, 0, 0, 0, 0, 0, 0, 0, 0, 0, 0, 0]) 219)).alloc (.cells (cellsArr (padB gs)) 219)).heap[w.heap.size + 1]? = some (.cells (cellsArr (padB gs)) 219 (0, 0))) := Lib.hid (heap_alloc2_new w _ _)
      have HST : Hid (((w.alloc (.cells (cellsArr [0, 0, 0, 0, 0, 0, 0, 0, 0, 0, 0, 0, 0, 0, 0, 0]) 219)).alloc (.cells (cellsArr (padB gs)) 219)).heap[w.heap.size]? = some (.cells (cellsArr [0, 0, 0, 0, 0, 0, 0, 0, 0, 0, 0, 0, 0, 0, 0, 0]) 219 (0, 0))) := Lib.hid (heap_alloc2_old w _ _)
      have HSZ : Hid ((Tryz.prog.info? 219).map (·.size) = some (cellsArr (padB gs)).size) := Lib.hid (by rw [cellsArr_size, hL16]; exact size219)
      have HS2 : Hid ((cellsArr [0, 0, 0, 0, 0, 0, 0, 0, 0, 0, 0, 0, 0, 0, 0, 0]).size = (cellsArr (padB gs)).size) := Lib.hid (by rw [cellsArr_size, cellsArr_size, hL16]; rfl)
      have HS3 : Hid ((((w.alloc (.cells (cellsArr [0, 0, 0, 0, 0, 0, 0, 0, 0, 0, 0, 0, 0, 0, 0, 0]) 219)).alloc (.cells (cellsArr (padB gs)) 219)).setRow w.heap.size (cellsArr (padB gs))).heap[w.heap.size]? = some (.cells (cellsArr (padB gs)) 219 (0, 0))) := Lib.hid (setRow_heap _ _ _ _ _ _ HST.out)
      go_wp2_with (first | (refine wpList_load_row rfl 219 (.tmp 4) rfl (w.heap.size + 1) rfl 219 _ (0, 0) _ HLD.out Tryz.underlying219 rfl HSZ.out ?_) | (refine wpList_store_row rfl 219 (.tmp 2) (.tmp 171) rfl w.heap.size _ rfl rfl 219 _ HST.out HSZ.out HS2.out (cellsArr_one _) ?_))
      refine bodyPost_ret (v := .tuple #[.agg _, .bool true]) (results340 _ _ _ _ rfl rfl HS3.out HSZ.out) rfl ⟨by rw [HB.out], ?_⟩
      exact below_setRow (((Below.refl _ _).alloc (Nat.le_refl _) _).alloc (by simp) _) (Nat.le_refl _) _
end Go.Proofs.YtnpcmmjdojdmnaaGreatDoor
