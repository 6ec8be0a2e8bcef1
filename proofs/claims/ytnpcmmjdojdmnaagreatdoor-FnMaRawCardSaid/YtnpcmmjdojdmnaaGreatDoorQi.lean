/- The plain law of FnMaComponents: the bytes of a component know code and value; the order of bytes. spec.MaSame, laws.sign, laws.zzFits7. spec.MaSimple. -/
import Derived.Test.YtnpcmmjdojdmnaaGreatDoorQh
import Derived.Test.YtnpcmmjdojdmnaaGreatDoorQc
import Derived.Test.YtnpcmmjdojdmnaaGreatDoorQb
import Derived.Test.YtnpcmmjdojdmnaaGreatDoorQa
namespace Go.Proofs.YtnpcmmjdojdmnaaGreatDoor
open Go Go.RowKit

theorem uvarint_inj : ∀ (n a b : Nat) (X Y : List UInt8), a ≤ n → Lib.uvarint a ++ X = Lib.uvarint b ++ Y → a = b ∧ X = Y := by
  intro n
  induction n with
  | zero =>
    intro a b X Y ha h
    rw [Lib.uvarint_small (x := a) (by omega)] at h
    by_cases hb : b < 128
    · rw [Lib.uvarint_small hb] at h
      simp only [List.cons_append, List.nil_append, List.cons.injEq] at h
      have h1 := congrArg UInt8.toNat h.1
      simp at h1
      exact ⟨by omega, h.2⟩
    · rw [Lib.uvarint_big (by omega)] at h
      simp only [List.cons_append, List.nil_append, List.cons.injEq] at h
      have h1 := congrArg UInt8.toNat h.1
      simp at h1
      omega
  | succ n ih =>
    intro a b X Y ha h
    by_cases hA : a < 128
    · rw [Lib.uvarint_small hA] at h
      by_cases hb : b < 128
      · rw [Lib.uvarint_small hb] at h
        simp only [List.cons_append, List.nil_append, List.cons.injEq] at h
        have h1 := congrArg UInt8.toNat h.1
        simp at h1
        exact ⟨by omega, h.2⟩
      · rw [Lib.uvarint_big (by omega)] at h
        simp only [List.cons_append, List.nil_append, List.cons.injEq] at h
        have h1 := congrArg UInt8.toNat h.1
        simp at h1
        omega
    · rw [Lib.uvarint_big (by omega)] at h
      by_cases hb : b < 128
      · rw [Lib.uvarint_small hb] at h
        simp only [List.cons_append, List.nil_append, List.cons.injEq] at h
        have h1 := congrArg UInt8.toNat h.1
        simp at h1
        omega
      · rw [Lib.uvarint_big (x := b) (by omega)] at h
        simp only [List.cons_append, List.cons.injEq] at h
        have h1 := congrArg UInt8.toNat h.1
        simp at h1
        obtain ⟨h2, h3⟩ := ih (a / 128) (b / 128) X Y (by omega) h.2
        exact ⟨by omega, h3⟩

theorem compBytes_inj {c d : Int} (hc : known c = true) (hd : known d = true) {l m : List UInt8} (h : compBytes c l = compBytes d m) : c = d ∧ l = m := by
  have c0 := (uvarint_code hc).2
  have d0 := (uvarint_code hd).2
  unfold compBytes at h
  rw [List.append_assoc, List.append_assoc] at h
  obtain ⟨h1, h2⟩ := uvarint_inj _ _ _ _ _ (Nat.le_refl _) h
  have h3 : c = d := by omega
  subst h3
  refine ⟨rfl, ?_⟩
  by_cases hs : psz c < 0
  · rw [if_pos hs, if_pos hs] at h2
    exact (uvarint_inj _ _ _ _ _ (Nat.le_refl _) h2).2
  · rw [if_neg hs, if_neg hs] at h2
    simpa using h2

theorem compareBytes_zero : ∀ (a b : List UInt8), Lib.compareBytes a b = 0 ↔ a = b
  | [], [] => by simp [Lib.compareBytes]
  | [], _ :: _ => by simp [Lib.compareBytes]
  | _ :: _, [] => by simp [Lib.compareBytes]
  | x :: a, y :: b => by
    rw [Lib.compareBytes]
    split
    · rename_i h
      simp only [List.cons.injEq]
      exact ⟨fun e => by simp at e, fun e => by rw [e.1] at h; exact absurd h (UInt8.lt_irrefl _)⟩
    · split
      · rename_i h
        simp only [List.cons.injEq]
        exact ⟨fun e => by simp at e, fun e => by rw [e.1] at h; exact absurd h (UInt8.lt_irrefl _)⟩
      · rename_i h1 h2
        have : x = y := UInt8.le_antisymm (UInt8.not_lt.1 h2) (UInt8.not_lt.1 h1)
        rw [compareBytes_zero a b, this]; simp
theorem compareBytes_swap : ∀ (a b : List UInt8), Lib.compareBytes b a = - Lib.compareBytes a b
  | [], [] => by simp [Lib.compareBytes]
  | [], _ :: _ => by simp [Lib.compareBytes]
  | _ :: _, [] => by simp [Lib.compareBytes]
  | x :: a, y :: b => by
    rw [Lib.compareBytes, Lib.compareBytes]
    by_cases h1 : x < y
    · have h2 : ¬ y < x := fun h => UInt8.lt_irrefl _ (UInt8.lt_trans h h1)
      simp [h1, h2]
    · by_cases h2 : y < x
      · simp [h1, h2]
      · simp [h1, h2, compareBytes_swap a b]
theorem compareBytes_range : ∀ (a b : List UInt8), Lib.compareBytes a b = -1 ∨ Lib.compareBytes a b = 0 ∨ Lib.compareBytes a b = 1
  | [], [] => by simp [Lib.compareBytes]
  | [], _ :: _ => by simp [Lib.compareBytes]
  | _ :: _, [] => by simp [Lib.compareBytes]
  | x :: a, y :: b => by
    rw [Lib.compareBytes]
    split
    · simp
    · split
      · simp
      · exact compareBytes_range a b

/-- Equality and order of two components, as the law asks them. -/
theorem law_same {c d : Int} (hc : known c = true) (hd : known d = true) (l m : List UInt8) : (compBytes c l == compBytes d m) = (c == d && l == m) := by
  rw [Bool.eq_iff_iff]
  simp only [beq_iff_eq, Bool.and_eq_true]
  exact ⟨compBytes_inj hc hd, fun h => by rw [h.1, h.2]⟩
theorem law_back (a b : List UInt8) : (b == a) = (a == b) := by
  rw [Bool.eq_iff_iff]; simp only [beq_iff_eq]; exact eq_comm
theorem law_zero (a b : List UInt8) : (Lib.compareBytes a b == 0) = (a == b) := by
  rw [Bool.eq_iff_iff]; simp only [beq_iff_eq]; exact compareBytes_zero a b
end Go.Proofs.YtnpcmmjdojdmnaaGreatDoor
namespace Go.Proofs.YtnpcmmjdojdmnaaGreatDoor
open Go Go.RowKit

/-- Bytes made a text. -/
theorem convert_bytes {w : World} {p : Option Addr} {l : List UInt8} (h : BytesAt w p l) (cp : Nat) : (convert 22 9 (.slice p l.length cp)).run Tryz.prog w = .ok (.string ⟨l.toArray⟩) w := by
  cases p with
  | none =>
    obtain rfl := h.1 rfl
    rw [run_convert_bytes_string w 22 9 5 none _ _ Tryz.underlying22 Tryz.underlying5 Tryz.underlying9]
    simp [Conv.bytesToString]
    rfl
  | some a => exact run_convert_bytes_back w 22 9 5 a cp l Tryz.underlying22 Tryz.underlying5 Tryz.underlying9 (h.2 a rfl)

set_option maxRecDepth 100000 in
set_option maxHeartbeats 4000000 in
theorem maSame (c d : Int) (p q : Option Addr) (l m : List UInt8) (cp cq : Nat) (w : World) (hp : BytesAt w p l) (hq : BytesAt w q m) :
    Calls Tryz.prog 11 #[.agg #[.int .i64 c, .slice p l.length cp], .agg #[.int .i64 d, .slice q m.length cq]] w fun e w' => e = .returned (.bool (c == d && l == m)) ∧ Below w.heap.size w w' := by
  have hb : Below w.heap.size w ((w.alloc (.cells #[.int .i64 c, .slice p l.length cp] 24)).alloc (.cells #[.int .i64 d, .slice q m.length cq] 24)) := ((Below.refl _ _).alloc (Nat.le_refl _) _).alloc (by simp) _
  have h1 := convert_bytes (hp.below hb hp.lt) cp
  have h2 := convert_bytes (hq.below hb hq.lt) cq
  have HB := Lib.hid hb; clear hb
  clear hp hq
  cases e : (c == d)
  all_goals
    go_enter Tryz.func11, Tryz.ntmps11
    go_wp2
    go_ret
    exact ⟨by first | rfl | simp, HB.out⟩

set_option maxRecDepth 100000 in
set_option maxHeartbeats 4000000 in
theorem sign_of (n : Int) (hn : n = -1 ∨ n = 0 ∨ n = 1) (w : World) : Calls Tryz.prog 12 #[.int .i64 n] w fun e w' => e = .returned (.int .i64 n) ∧ w = w' := by
  rcases hn with rfl | rfl | rfl
  all_goals
    go_enter Tryz.func12, Tryz.ntmps12
    go_wp2
    go_ret
    exact ⟨rfl, rfl⟩

set_option maxRecDepth 100000 in
set_option maxHeartbeats 4000000 in
theorem zzFits (c : Value) (p : Option Addr) (n cp : Nat) (w : World) :
    Calls Tryz.prog 7 #[.agg #[c, .slice p n cp]] w fun e w' => e = .returned (.bool (decide (n ≤ 2147483647))) ∧ Below w.heap.size w w' := by
  by_cases h : n ≤ 2147483647
  · have e : decide (2147483647 < (n : Int)) = false := by simp; omega
    go_enter Tryz.func7, Tryz.ntmps7
    go_wp2
    go_ret
    exact ⟨by simp [h], (Below.refl _ _).alloc (Nat.le_refl _) _⟩
  · have e : decide (2147483647 < (n : Int)) = true := by simp; omega
    go_enter Tryz.func7, Tryz.ntmps7
    go_wp2
    go_ret
    exact ⟨by simp [h], (Below.refl _ _).alloc (Nat.le_refl _) _⟩
end Go.Proofs.YtnpcmmjdojdmnaaGreatDoor
namespace Go.Proofs.YtnpcmmjdojdmnaaGreatDoor
open Go Go.RowKit

/-- A simple component: its protocol has no value, or numbers as its value, or a plain name, or (unix) a path. -/
def simpleB (c : Int) (l : List UInt8) : Bool :=
  known c && (if 0 ≤ psz c then decide ((l.length : Int) * 8 = psz c) && c != 444 && c != 445
    else if c = 400 then pathB l else if c = 42 ∨ (53 ≤ c ∧ c ≤ 56) ∨ c = 449 then plainB l else false)

theorem psz_of (c : Int) : psz c < 0 ∨ ∃ k : Nat, psz c = 8 * (k : Int) ∧ k ≤ 100 := by
  rcases known_cases c with rfl | rfl | rfl | rfl | rfl | rfl | rfl | rfl | rfl | rfl | rfl | rfl | rfl | rfl | rfl | rfl | rfl | rfl | rfl | rfl | rfl | rfl | rfl | rfl | rfl | rfl | rfl | rfl | rfl | rfl | rfl | rfl | rfl | rfl | rfl | rfl | rfl | rfl | h
  all_goals first
    | exact Or.inl (by decide)
    | exact Or.inr ⟨0, by decide, by decide⟩
    | exact Or.inr ⟨1, by decide, by decide⟩
    | exact Or.inr ⟨2, by decide, by decide⟩
    | exact Or.inr ⟨4, by decide, by decide⟩
    | exact Or.inr ⟨8, by decide, by decide⟩
    | exact Or.inr ⟨12, by decide, by decide⟩
    | exact Or.inr ⟨16, by decide, by decide⟩
    | exact Or.inr ⟨37, by decide, by decide⟩
    | skip
  exact Or.inr ⟨0, by simp [psz, row_none h], by decide⟩

set_option maxRecDepth 100000 in
set_option maxHeartbeats 4000000 in
theorem maSimple (c : Int) (p : Option Addr) (l : List UInt8) (cp : Nat) (w : World) (hp : BytesAt w p l) (hl : l.length ≤ 2147483647) :
    Calls Tryz.prog 8 #[.agg #[.int .i64 c, .slice p l.length cp]] w fun e w' => e = .returned (.bool (simpleB c l)) ∧ Below w.heap.size w w' := by
  have HM := Lib.hid (maProtocol c)
  have HB := Lib.hid (fun (w' : World) (hb : Below w.heap.size w w') => convert_bytes (hp.below hb hp.lt) cp)
  clear hp
  generalize pname c = n at HM
  generalize pcode c = pc at HM
  generalize ppath c = pp at HM
  have HE : ∀ (w2 : World) (o : Obj), Hid (Below (w.alloc (.cells #[.int .i64 c, .slice p l.length cp] 24)).heap.size (w.alloc (.cells #[.int .i64 c, .slice p l.length cp] 24)) w2 → Below w.heap.size w (w2.alloc o)) := fun w2 o => Lib.hid fun hb =>
    (((Below.refl _ _).alloc (Nat.le_refl _) _).trans (hb.mono (by simp))).alloc (by have := hb.size; simp at this; omega) _
  cases hk : known c with
  | false =>
    rw [hk] at HM
    go_enter Tryz.func8, Tryz.ntmps8
    go_wp2_with (go_at_call 24; with_reducible refine (HM.out _).mono ?_; rintro e w2 ⟨rfl, hb⟩; obtain ⟨hc, hf⟩ := bcell hb; have hz : w.heap.size < w2.heap.size := (by have := hb.size; simp at this; omega))
    go_ret
    exact ⟨by simp [simpleB, hk], (HE _ _).out hb⟩
  | true =>
    rw [hk] at HM
    rcases psz_of c with hneg | ⟨k, hk8, hk100⟩
    · have d0 : decide (0 ≤ psz c) = false := by simp; omega
      have H0 := Lib.hid d0
      generalize hz : psz c = z at HM d0
      have hS0 : ¬ 0 ≤ psz c := by omega
      have hS := Lib.hid hS0
      clear hneg hS0 hz
      have HL : Hid ((⟨l.toArray⟩ : ByteArray).size ≤ maxLen) := Lib.hid (by show l.toArray.size ≤ _; simp [maxLen]; omega)
      by_cases h400 : c = 400
      · have d1 : (c == 400) = true := by simp [h400]
        have HR : Hid (simpleB c l = pathB l) := Lib.hid (by rw [simpleB, hk, if_neg hS.out, if_pos h400, Bool.true_and])
        clear h400
        go_enter Tryz.func8, Tryz.ntmps8
        go_wp2_with (first | (go_at_call 24; with_reducible refine (HM.out _).mono ?_; rintro e w2 ⟨rfl, hb⟩; obtain ⟨hc, hf⟩ := bcell hb; have hz : w.heap.size < w2.heap.size := (by have := hb.size; simp at this; omega); have hcv := HB.out _ ((HE w2 (.cells #[.string n, .int .i64 pc, .int .i64 z, .bool pp, .slice none 0 0] 43)).out hb)) | (go_at_call 25; with_reducible refine (maPath _ _ HL.out).mono ?_; rintro e w3 ⟨rfl, rfl⟩))
        go_ret
        exact ⟨by rw [HR.out]; rfl, (HE _ _).out hb⟩
      have d1 : (c == 400) = false := by simp [h400]
      by_cases h42 : c = 42
      · have d2 : (c == 42) = true := by simp [h42]
        have HR : Hid (simpleB c l = plainB l) := Lib.hid (by rw [simpleB, hk, if_neg hS.out, if_neg h400, if_pos (Or.inl h42), Bool.true_and])
        clear h42
        go_enter Tryz.func8, Tryz.ntmps8
        go_wp2_with (first | (go_at_call 24; with_reducible refine (HM.out _).mono ?_; rintro e w2 ⟨rfl, hb⟩; obtain ⟨hc, hf⟩ := bcell hb; have hz : w.heap.size < w2.heap.size := (by have := hb.size; simp at this; omega); have hcv := HB.out _ ((HE w2 (.cells #[.string n, .int .i64 pc, .int .i64 z, .bool pp, .slice none 0 0] 43)).out hb)) | (go_at_call 26; with_reducible refine (maPlain _ _ HL.out).mono ?_; rintro e w3 ⟨rfl, rfl⟩))
        go_ret
        exact ⟨by rw [HR.out]; rfl, (HE _ _).out hb⟩
      have d2 : (c == 42) = false := by simp [h42]
      by_cases h53 : 53 ≤ c ∧ c ≤ 56
      · have d3 : decide (53 ≤ c) = true := by simp; omega
        have d4 : decide (c ≤ 56) = true := by simp; omega
        have HR : Hid (simpleB c l = plainB l) := Lib.hid (by rw [simpleB, hk, if_neg hS.out, if_neg h400, if_pos (Or.inr (Or.inl h53)), Bool.true_and])
        go_enter Tryz.func8, Tryz.ntmps8
        go_wp2_with (first | (go_at_call 24; with_reducible refine (HM.out _).mono ?_; rintro e w2 ⟨rfl, hb⟩; obtain ⟨hc, hf⟩ := bcell hb; have hz : w.heap.size < w2.heap.size := (by have := hb.size; simp at this; omega); have hcv := HB.out _ ((HE w2 (.cells #[.string n, .int .i64 pc, .int .i64 z, .bool pp, .slice none 0 0] 43)).out hb)) | (go_at_call 26; with_reducible refine (maPlain _ _ HL.out).mono ?_; rintro e w3 ⟨rfl, rfl⟩))
        go_ret
        exact ⟨by rw [HR.out]; rfl, (HE _ _).out hb⟩
      by_cases h449 : c = 449
      · have d3 : decide (53 ≤ c) = true := by simp; omega
        have d4 : decide (c ≤ 56) = false := by simp; omega
        have d5 : (c == 449) = true := by simp [h449]
        have HR : Hid (simpleB c l = plainB l) := Lib.hid (by rw [simpleB, hk, if_neg hS.out, if_neg h400, if_pos (Or.inr (Or.inr h449)), Bool.true_and])
        clear h449
        go_enter Tryz.func8, Tryz.ntmps8
        go_wp2_with (first | (go_at_call 24; with_reducible refine (HM.out _).mono ?_; rintro e w2 ⟨rfl, hb⟩; obtain ⟨hc, hf⟩ := bcell hb; have hz : w.heap.size < w2.heap.size := (by have := hb.size; simp at this; omega); have hcv := HB.out _ ((HE w2 (.cells #[.string n, .int .i64 pc, .int .i64 z, .bool pp, .slice none 0 0] 43)).out hb)) | (go_at_call 26; with_reducible refine (maPlain _ _ HL.out).mono ?_; rintro e w3 ⟨rfl, rfl⟩))
        go_ret
        exact ⟨by rw [HR.out]; rfl, (HE _ _).out hb⟩
      have d5 : (c == 449) = false := by simp [h449]
      have HR : Hid (simpleB c l = false) := Lib.hid (by simp [simpleB, hk, hS.out, h400, h42, h449]; omega)
      by_cases h3 : 53 ≤ c
      · have d3 : decide (53 ≤ c) = true := by simp; omega
        have d4 : decide (c ≤ 56) = false := by simp; omega
        go_enter Tryz.func8, Tryz.ntmps8
        go_wp2_with (first | (go_at_call 24; with_reducible refine (HM.out _).mono ?_; rintro e w2 ⟨rfl, hb⟩; obtain ⟨hc, hf⟩ := bcell hb; have hz : w.heap.size < w2.heap.size := (by have := hb.size; simp at this; omega); have hcv := HB.out _ ((HE w2 (.cells #[.string n, .int .i64 pc, .int .i64 z, .bool pp, .slice none 0 0] 43)).out hb)))
        go_ret
        exact ⟨by rw [HR.out]; rfl, (HE _ _).out hb⟩
      · have d3 : decide (53 ≤ c) = false := by simp; omega
        go_enter Tryz.func8, Tryz.ntmps8
        go_wp2_with (first | (go_at_call 24; with_reducible refine (HM.out _).mono ?_; rintro e w2 ⟨rfl, hb⟩; obtain ⟨hc, hf⟩ := bcell hb; have hz : w.heap.size < w2.heap.size := (by have := hb.size; simp at this; omega); have hcv := HB.out _ ((HE w2 (.cells #[.string n, .int .i64 pc, .int .i64 z, .bool pp, .slice none 0 0] 43)).out hb)))
        go_ret
        exact ⟨by rw [HR.out]; rfl, (HE _ _).out hb⟩
    · have d0 : decide (0 ≤ psz c) = true := by simp; omega
      have HR : Hid (simpleB c l = (decide ((l.length : Int) = (k : Int)) && c != 444 && c != 445)) := by
        refine Lib.hid ?_
        rw [simpleB, hk, if_pos (by omega), Bool.true_and]
        congr 2
        rw [Bool.eq_iff_iff]; simp; omega
      have q0 : (psz c).tdiv 8 = (k : Int) := by rw [hk8, Int.mul_tdiv_cancel_left _ (by decide)]
      have q1 : IntKind.i64.wrap (k : Int) = k := IntWalk.i64_in _ (by omega)
      generalize psz c = z at HM d0 q0
      clear hk8
      cases e0 : ((l.length : Int) == (k : Int))
      · have e0' : decide ((l.length : Int) = (k : Int)) = false := by simpa using e0
        go_enter Tryz.func8, Tryz.ntmps8
        go_wp2_with (go_at_call 24; with_reducible refine (HM.out _).mono ?_; rintro e w2 ⟨rfl, hb⟩; obtain ⟨hc, hf⟩ := bcell hb; have hz : w.heap.size < w2.heap.size := (by have := hb.size; simp at this; omega))
        go_ret
        exact ⟨by rw [HR.out, e0']; rfl, (HE _ _).out hb⟩
      · have e0' : decide ((l.length : Int) = (k : Int)) = true := by simpa using e0
        cases e1 : (c != 444)
        · go_enter Tryz.func8, Tryz.ntmps8
          go_wp2_with (go_at_call 24; with_reducible refine (HM.out _).mono ?_; rintro e w2 ⟨rfl, hb⟩; obtain ⟨hc, hf⟩ := bcell hb; have hz : w.heap.size < w2.heap.size := (by have := hb.size; simp at this; omega))
          go_ret
          exact ⟨by rw [HR.out, e0', e1]; rfl, (HE _ _).out hb⟩
        · cases e2 : (c != 445)
          · go_enter Tryz.func8, Tryz.ntmps8
            go_wp2_with (go_at_call 24; with_reducible refine (HM.out _).mono ?_; rintro e w2 ⟨rfl, hb⟩; obtain ⟨hc, hf⟩ := bcell hb; have hz : w.heap.size < w2.heap.size := (by have := hb.size; simp at this; omega))
            go_ret
            exact ⟨by rw [HR.out, e0', e1, e2]; rfl, (HE _ _).out hb⟩
          · go_enter Tryz.func8, Tryz.ntmps8
            go_wp2_with (go_at_call 24; with_reducible refine (HM.out _).mono ?_; rintro e w2 ⟨rfl, hb⟩; obtain ⟨hc, hf⟩ := bcell hb; have hz : w.heap.size < w2.heap.size := (by have := hb.size; simp at this; omega))
            go_ret
            exact ⟨by rw [HR.out, e0', e1, e2]; rfl, (HE _ _).out hb⟩
end Go.Proofs.YtnpcmmjdojdmnaaGreatDoor
