/- impl.MaComponents. -/
import Derived.Test.YtnpcmmjdojdmnaaGreatDoorQj
namespace Go.Proofs.YtnpcmmjdojdmnaaGreatDoor
open Go Go.RowKit

/-- What holds within the region that makes the two components. -/
abbrev Two (w0 : World) (A B : Value) (C D : Value) (w : World) : Prop :=
  w.cell? ⟨w0.heap.size, 0, none⟩ = some A ∧ w.cell? ⟨w0.heap.size, 1, none⟩ = some B ∧ w.cell? ⟨w0.heap.size + 1, 0, none⟩ = some C ∧ w.cell? ⟨w0.heap.size + 1, 1, none⟩ = some D ∧
  Below w0.heap.size w0 w ∧ w0.heap.size + 2 ≤ w.heap.size

theorem Two.step {w0 : World} {A B C D : Value} {w w' : World} {b : Nat} (h : Two w0 A B C D w) (hb : Below b w w') (hB : w0.heap.size + 2 ≤ b) : Two w0 A B C D w' := by
  obtain ⟨h1, h2, h3, h4, h7, h8⟩ := h
  exact ⟨(hb.cell (p := ⟨_, _, _⟩) (by simp only; omega)).trans h1, (hb.cell (p := ⟨_, _, _⟩) (by simp only; omega)).trans h2, (hb.cell (p := ⟨_, _, _⟩) (by simp only; omega)).trans h3, (hb.cell (p := ⟨_, _, _⟩) (by simp only; omega)).trans h4,
    h7.trans (hb.mono (by omega)), Nat.le_trans h8 hb.size⟩
theorem Two.alloc {w0 : World} {A B C D : Value} {w : World} (h : Two w0 A B C D w) (o : Obj) : Two w0 A B C D (w.alloc o) :=
  h.step ((Below.refl _ _).alloc (Nat.le_refl _) _) h.2.2.2.2.2
theorem Two.drew {w0 : World} {A B C D : Value} {w : World} (h : Two w0 A B C D w) : Two w0 A B C D w.drew :=
  h.step (b := w.heap.size) ((Below.refl _ _).drew) h.2.2.2.2.2
theorem Two.set3 {w0 : World} {A B C D : Value} {w : World} {b : Nat} (h : Two w0 A B C D w) (hb : w0.heap.size + 2 ≤ b) (x0 x1 x2 : Value) :
    Two w0 A B C D (((w.setCell ⟨b, 0, none⟩ x0).setCell ⟨b, 1, none⟩ x1).setCell ⟨b, 2, none⟩ x2) :=
  h.step ((((Below.refl _ _).setCell (B := b) (Nat.le_refl _) _).setCell (Nat.le_refl _) _).setCell (Nat.le_refl _) _) hb

theorem sizes2 {w X w2 : World} {v : Nat} {c : Int} (hz : w.heap.size + 2 ≤ X.heap.size) (hp : ProtoAt X.heap.size w2 v c) :
    w.heap.size + 1 < w2.heap.size ∧ w.heap.size + 1 + 1 < w2.heap.size ∧ (w.heap.size + 1 + 1 + 1 < X.heap.size → w.heap.size + 1 + 1 + 1 < w2.heap.size) := by
  obtain ⟨h1, h2, _⟩ := hp
  exact ⟨by omega, by omega, fun h => by omega⟩
theorem sizes3 {w w2 X w3 : World} {v : Nat} {c : Int} (hz : w.heap.size + 1 + 1 < w2.heap.size) (hX : w2.heap.size ≤ X.heap.size) (hp : ProtoAt X.heap.size w3 v c) :
    w.heap.size + 1 < w3.heap.size ∧ w.heap.size + 1 + 1 < w3.heap.size ∧ w.heap.size + 1 + 1 + 1 < w3.heap.size ∧ w2.heap.size < w3.heap.size ∧ (w2.heap.size + 1 < X.heap.size → w2.heap.size + 1 < w3.heap.size) := by
  obtain ⟨h1, h2, _⟩ := hp
  exact ⟨by omega, by omega, by omega, by omega, fun h => by omega⟩

theorem compEqual' (a b : Addr) (s t : ByteArray) (w : World) (ha : w.cell? a = some (.string s)) (hb : w.cell? b = some (.string t)) :
    Calls Tryz.prog 29 #[.pointer (some a), .pointer (some b)] w fun e w' => e = .returned (.bool (s.toList == t.toList)) ∧ Below w.heap.size w w' ∧ w'.cell? a = some (.string s) ∧ w'.cell? b = some (.string t) := by
  refine (compEqual a b s t w ha hb).mono ?_
  rintro e w' ⟨h1, h2⟩
  exact ⟨h1, h2, (h2.cell (World.block_lt_of_cell? w a ha)).trans ha, (h2.cell (World.block_lt_of_cell? w b hb)).trans hb⟩
set_option maxRecDepth 100000 in
set_option maxHeartbeats 4000000 in
theorem maComponents (c d : Int) (hc : known c = true) (hd : known d = true) (p q : Option Addr) (l m : List UInt8) (cp cq : Nat) (w : World) (hp : BytesAt w p l) (hl : l.length ≤ 2147483647) (hq : BytesAt w q m) (hm : m.length ≤ 2147483647) :
    Calls Tryz.prog 10 #[.agg #[.int .i64 c, .slice p l.length cp], .agg #[.int .i64 d, .slice q m.length cq]] w fun e w' =>
      e = .returned (.tuple #[.bool (compBytes c l == compBytes d m), .int .i64 (Lib.compareBytes (compBytes c l) (compBytes d m))]) ∧ Below w.heap.size w w' := by
  have C1 := Lib.hid (fun wx (hb : Below w.heap.size w wx) => component c hc p l cp wx (hp.below hb hp.lt) hl)
  have C2 := Lib.hid (fun wx (hb : Below w.heap.size w wx) => component d hd q m cq wx (hq.below hb hq.lt) hm)
  clear hp hq
  go_enter Tryz.func10, Tryz.ntmps10
  go_wp2
  have hw0 : Two w (.int .i64 c) (.slice p l.length cp) (.int .i64 d) (.slice q m.length cq) ((w.alloc (.cells #[.int .i64 c, .slice p l.length cp] 24)).alloc (.cells #[.int .i64 d, .slice q m.length cq] 24)).drew :=
    ⟨by simp [go_sem], by simp [go_sem], by simp [go_sem], by simp [go_sem], (((Below.refl _ _).alloc (Nat.le_refl _) _).alloc (by simp) _).drew, by simp⟩
  have hw1 : Two w (.int .i64 c) (.slice p l.length cp) (.int .i64 d) (.slice q m.length cq) ((w.alloc (.cells #[.int .i64 c, .slice p l.length cp] 24)).alloc (.cells #[.int .i64 d, .slice q m.length cq] 24)) :=
    ⟨by simp [go_sem], by simp [go_sem], by simp [go_sem], by simp [go_sem], (((Below.refl _ _).alloc (Nat.le_refl _) _).alloc (by simp) _), by simp⟩
  go_region_held3 (fun w' => Two w (.int .i64 c) (.slice p l.length cp) (.int .i64 d) (.slice q m.length cq) w')
    (((repeat (first
      | with_reducible assumption
      | with_reducible refine Two.alloc ?_ _
      | with_reducible refine Two.drew ?_
      | with_reducible refine Two.set3 ?_ (by omega) _ _ _)); done))
    (first
      | (go_at_call 28; with_reducible refine (C1.out _ (‹Two w _ _ _ _ _›).2.2.2.2.1).mono ?_; rintro e w2 ⟨v2, rfl, hv2, hbk2⟩; obtain ⟨hc2, hf2⟩ := bcell hbk2; have hz2 := (‹Two w _ _ _ _ _›).2.2.2.2.2; have ht2 := Two.step (‹Two w _ _ _ _ _›) hbk2 (by omega); obtain ⟨hyC2, hyA2, hyB2⟩ := sizes2 hz2 hv2)
      | (go_at_call 28; with_reducible refine (C2.out _ (‹Two w _ _ _ _ _›).2.2.2.2.1).mono ?_; rintro e w3 ⟨v3, rfl, hv3, hbk3⟩; obtain ⟨hc3, hf3⟩ := bcell hbk3; have hz3 := (‹Two w _ _ _ _ _›).2.2.2.2.2; have ht3 := Two.step (‹Two w _ _ _ _ _›) hbk3 (by omega); obtain ⟨hyC3, hyA3, hyB3, hyD3, hyE3⟩ := sizes3 hyA2 (by (try simp only [World.heap_alloc_size]); (try simp); (try omega)) hv3))
  all_goals
    go_wp2_with (first | (go_at_call 29; refine (compEqual' _ _ ⟨(compBytes c l).toArray⟩ ⟨(compBytes d m).toArray⟩ _ (by (try go_simp); (try (refine World.cell?_setCell_same' _ _ _ ?_; go_simp))) (by (try go_simp); (try (refine World.cell?_setCell_same' _ _ _ ?_; go_simp)))).mono ?_; rintro e w4 ⟨rfl, hb4, hq1, hq2⟩) | (go_at_call 30; refine (compCompare _ _ _ _ _ hq1 hq2).mono ?_; rintro e w5 ⟨rfl, hb5⟩))
    go_ret2
    have HT := (‹Two w _ _ _ _ _›).2.2.2.2
    exact ⟨rfl, (HT.1.trans (hb4.mono (by omega))).trans (hb5.mono (Nat.le_trans (by omega) hb4.size))⟩
end Go.Proofs.YtnpcmmjdojdmnaaGreatDoor
