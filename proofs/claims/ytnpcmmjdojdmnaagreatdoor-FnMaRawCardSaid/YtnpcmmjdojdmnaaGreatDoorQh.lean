/- zzCoded at every code of the table; ProtocolWithCode; zzPtr. A component of the package, made of a code and a value (ZZComponent, component): its bytes. -/
import Derived.Test.YtnpcmmjdojdmnaaGreatDoorQf
import Derived.Test.YtnpcmmjdojdmnaaGreatDoorQg
import Derived.Test.YtnpcmmjdojdmnaaGreatDoorQc
namespace Go.Proofs.YtnpcmmjdojdmnaaGreatDoor
open Go Go.RowKit

theorem zzCoded (c : Int) (hk : known c = true) (w : World) : Calls Tryz.prog 70 #[.int .i64 c] w fun e w' => ∃ vc, e = .returned (.agg #[.string (pname c), .int .i64 c, vc, .int .i64 (psz c), .bool (ppath c), tcv c]) ∧ Fresh w.heap.size w' vc (Lib.uvarint c.toNat) ∧ Below w.heap.size w w' := by
  rcases known_cases c with rfl | rfl | rfl | rfl | rfl | rfl | rfl | rfl | rfl | rfl | rfl | rfl | rfl | rfl | rfl | rfl | rfl | rfl | rfl | rfl | rfl | rfl | rfl | rfl | rfl | rfl | rfl | rfl | rfl | rfl | rfl | rfl | rfl | rfl | rfl | rfl | rfl | rfl | h
  · exact zzCoded4 w
  · exact zzCoded6 w
  · exact zzCoded33 w
  · exact zzCoded41 w
  · exact zzCoded42 w
  · exact zzCoded43 w
  · exact zzCoded53 w
  · exact zzCoded54 w
  · exact zzCoded55 w
  · exact zzCoded56 w
  · exact zzCoded132 w
  · exact zzCoded273 w
  · exact zzCoded276 w
  · exact zzCoded280 w
  · exact zzCoded281 w
  · exact zzCoded290 w
  · exact zzCoded301 w
  · exact zzCoded302 w
  · exact zzCoded400 w
  · exact zzCoded421 w
  · exact zzCoded443 w
  · exact zzCoded444 w
  · exact zzCoded445 w
  · exact zzCoded446 w
  · exact zzCoded447 w
  · exact zzCoded448 w
  · exact zzCoded449 w
  · exact zzCoded454 w
  · exact zzCoded460 w
  · exact zzCoded461 w
  · exact zzCoded465 w
  · exact zzCoded466 w
  · exact zzCoded477 w
  · exact zzCoded478 w
  · exact zzCoded480 w
  · exact zzCoded481 w
  · exact zzCoded777 w
  · exact zzCoded7367777 w
  · simp [known, row_none h] at hk

theorem tcv_form (c : Int) : tcv c = .nilIface ∨ ∃ x, tcv c = .iface 177 x := by
  rcases known_cases c with rfl | rfl | rfl | rfl | rfl | rfl | rfl | rfl | rfl | rfl | rfl | rfl | rfl | rfl | rfl | rfl | rfl | rfl | rfl | rfl | rfl | rfl | rfl | rfl | rfl | rfl | rfl | rfl | rfl | rfl | rfl | rfl | rfl | rfl | rfl | rfl | rfl | rfl | h
  all_goals first | exact Or.inr ⟨_, rfl⟩ | exact Or.inl rfl | skip
  refine Or.inl ?_
  obtain ⟨h4, h6, h33, h41, h42, h43, h53, h54, h55, h56, h132, h273, h276, h280, h281, h290, h301, h302, h400, h421, h443, h444, h445, h446, h447, h448, h449, h454, h460, h461, h465, h466, h477, h478, h480, h481, h777, h7367777⟩ := h
  simp only [tcv, h4, h6, h33, h41, h42, h43, h53, h54, h55, h56, h132, h273, h400, h421, h444, h445, h446, h447, h449, h466, h481, h777, if_false]

theorem known_ne {c : Int} (h : known c = true) : (c == 0) = false := by
  cases hc : (c == 0) with
  | false => rfl
  | true =>
    rw [beq_iff_eq] at hc
    subst hc
    exact absurd h (by decide)

/-- A protocol of the table in memory. -/
def ProtoAt (B : Nat) (w : World) (p : Nat) (c : Int) : Prop :=
  B ≤ p ∧ p < w.heap.size ∧ ∃ vc, Fresh B w vc (Lib.uvarint c.toNat) ∧ w.cell? ⟨p, 0, none⟩ = some (.string (pname c)) ∧ w.cell? ⟨p, 1, none⟩ = some (.int .i64 c) ∧ w.cell? ⟨p, 2, none⟩ = some vc ∧
    w.cell? ⟨p, 3, none⟩ = some (.int .i64 (psz c)) ∧ w.cell? ⟨p, 4, none⟩ = some (.bool (ppath c)) ∧ w.cell? ⟨p, 5, none⟩ = some (tcv c)

theorem protocolWithCode (c : Int) (hk : known c = true) (w : World) : Calls Tryz.prog 47 #[.int .i64 c] w fun e w' => ∃ vc, e = .returned (.agg #[.string (pname c), .int .i64 c, vc, .int .i64 (psz c), .bool (ppath c), tcv c]) ∧ Fresh w.heap.size w' vc (Lib.uvarint c.toNat) ∧ Below w.heap.size w w' := by
  have HC := zzCoded c hk
  have hT := tcv_form c
  generalize tcv c = tv at *
  have HH := Lib.hid HC; clear HC
  rcases hT with rfl | ⟨x, rfl⟩
  all_goals
    go_enter Tryz.func47, Tryz.ntmps47
    go_wp2_with (go_at_call 70; refine (HH.out _).mono ?_; rintro e w2 ⟨v, rfl, ⟨g, hg1, hg2, rfl, hg4⟩, hb⟩; obtain ⟨hc, hf⟩ := bcell hb; have hz : w.heap.size < w2.heap.size := (by have := hb.size; simp at this; omega))
    refine bodyPost_ret (v := .agg #[.string (pname c), .int .i64 c, .slice (some ⟨g, 0, none⟩) (Lib.uvarint c.toNat).length (Lib.uvarint c.toNat).length, .int .i64 (psz c), .bool (ppath c), _]) (by simp [results, Tryz.results47, go_sem, hc]) rfl ⟨_, rfl, ?_, ?_⟩
    · have hF : Fresh (w.heap.size + 1) w2 (.slice (some ⟨g, 0, none⟩) (Lib.uvarint c.toNat).length (Lib.uvarint c.toNat).length) (Lib.uvarint c.toNat) := ⟨g, by simpa using hg1, hg2, rfl, hg4⟩
      exact hF.set6 _ _ _ _ _ _
    · exact below_set6 (below_under hb) _ _ _ _ _ _

theorem zzPtr (c : Int) (hk : known c = true) (w : World) : Calls Tryz.prog 71 #[.int .i64 c] w fun e w' => ∃ p, e = .returned (.pointer (some ⟨p, 0, none⟩)) ∧ ProtoAt w.heap.size w' p c ∧ Below w.heap.size w w' := by
  have HC := zzCoded c hk
  have hT := tcv_form c
  have hne := known_ne hk
  unfold ProtoAt
  generalize tcv c = tv at *
  have HH := Lib.hid HC; clear HC
  rcases hT with rfl | ⟨x, rfl⟩
  all_goals
    go_enter Tryz.func71, Tryz.ntmps71
    go_wp2_with (go_at_call 70; refine (HH.out _).mono ?_; rintro e w2 ⟨v, rfl, ⟨g, hg1, hg2, rfl, hg4⟩, hb⟩)
    go_ret
    refine ⟨w2.heap.size, rfl, ⟨hb.size, by simp, .slice (some ⟨g, 0, none⟩) (Lib.uvarint c.toNat).length (Lib.uvarint c.toNat).length, ?_, ?_, ?_, ?_, ?_, ?_, ?_⟩, hb.alloc hb.size _⟩
    · exact Fresh.below ⟨g, hg1, hg2, rfl, hg4⟩ ((Below.refl _ _).alloc (Nat.le_refl _) _) (Nat.le_refl _)
    all_goals simp [go_sem]

end Go.Proofs.YtnpcmmjdojdmnaaGreatDoor
namespace Go.Proofs.YtnpcmmjdojdmnaaGreatDoor
open Go Go.RowKit

theorem Fresh.set3 {b : Nat} {w : World} {v : Value} {l : List UInt8} (h : Fresh (b + 1) w v l) (x0 x1 x2 : Value) :
    Fresh (b + 1) (((w.setCell ⟨b, 0, none⟩ x0).setCell ⟨b, 1, none⟩ x1).setCell ⟨b, 2, none⟩ x2) v l :=
  ((h.setCell 0 x0).setCell 1 x1).setCell 2 x2

theorem below_set3 {b : Nat} {w0 w : World} (h : Below b w0 w) (x0 x1 x2 : Value) :
    Below b w0 (((w.setCell ⟨b, 0, none⟩ x0).setCell ⟨b, 1, none⟩ x1).setCell ⟨b, 2, none⟩ x2) :=
  ((h.setCell (Nat.le_refl _) _).setCell (Nat.le_refl _) _).setCell (Nat.le_refl _) _

theorem ProtoAt.setCell {b p : Nat} {w : World} {c : Int} (h : ProtoAt (b + 1) w p c) (o : Nat) (x : Value) : ProtoAt (b + 1) (w.setCell ⟨b, o, none⟩ x) p c := by
  obtain ⟨h1, h2, vc, h3, h4, h5, h6, h7, h8, h9⟩ := h
  have hh : ∀ j, (w.setCell ⟨b, o, none⟩ x).cell? ⟨p, j, none⟩ = w.cell? ⟨p, j, none⟩ := fun j => World.cell?_of_block (w := w) (Below.heap_setCell w ⟨b, o, none⟩ x p (by show p ≠ b; omega))
  exact ⟨h1, by simpa [World.setCell] using h2, vc, h3.setCell o x, (hh 0).trans h4, (hh 1).trans h5, (hh 2).trans h6, (hh 3).trans h7, (hh 4).trans h8, (hh 5).trans h9⟩
theorem ProtoAt.mono {B B' p : Nat} {w : World} {c : Int} (h : ProtoAt B w p c) (hB : B' ≤ B) : ProtoAt B' w p c := by
  obtain ⟨h1, h2, vc, h3, h4⟩ := h
  exact ⟨Nat.le_trans hB h1, h2, vc, h3.mono hB, h4⟩
theorem ProtoAt.below {B B' p : Nat} {w w' : World} {c : Int} (h : ProtoAt B w p c) (hb : Below B' w w') (hB : w.heap.size ≤ B') : ProtoAt B w' p c := by
  obtain ⟨h1, h2, vc, h3, h4, h5, h6, h7, h8, h9⟩ := h
  have hh : ∀ j, w'.cell? ⟨p, j, none⟩ = w.cell? ⟨p, j, none⟩ := fun j => hb.cell (p := ⟨p, j, none⟩) (by show p < B'; omega)
  exact ⟨h1, Nat.lt_of_lt_of_le h2 hb.size, vc, h3.below hb hB, (hh 0).trans h4, (hh 1).trans h5, (hh 2).trans h6, (hh 3).trans h7, (hh 4).trans h8, (hh 5).trans h9⟩

theorem Fresh.set {B b : Nat} {w : World} {v : Value} {l : List UInt8} (h : Fresh B w v l) (hb : b < B) (o : Nat) (x : Value) : Fresh B (w.setCell ⟨b, o, none⟩ x) v l := by
  obtain ⟨g, h1, h2, h3, h4⟩ := h
  refine ⟨g, h1, by simpa [World.setCell] using h2, h3, fun j hj => ?_⟩
  rw [World.cell?_of_block (w := w) (Below.heap_setCell w ⟨b, o, none⟩ x g (by show g ≠ b; omega))]
  exact h4 j hj
theorem ProtoAt.set {B b p : Nat} {w : World} {c : Int} (h : ProtoAt B w p c) (hb : b < B) (o : Nat) (x : Value) : ProtoAt B (w.setCell ⟨b, o, none⟩ x) p c := by
  obtain ⟨h1, h2, vc, h3, h4, h5, h6, h7, h8, h9⟩ := h
  have hh : ∀ j, (w.setCell ⟨b, o, none⟩ x).cell? ⟨p, j, none⟩ = w.cell? ⟨p, j, none⟩ := fun j => World.cell?_of_block (w := w) (Below.heap_setCell w ⟨b, o, none⟩ x p (by show p ≠ b; omega))
  exact ⟨h1, by simpa [World.setCell] using h2, vc, h3.set hb o x, (hh 0).trans h4, (hh 1).trans h5, (hh 2).trans h6, (hh 3).trans h7, (hh 4).trans h8, (hh 5).trans h9⟩

theorem zzComponent (c : Int) (hk : known c = true) (s : ByteArray) (i : Int) (w : World) :
    Calls Tryz.prog 48 #[.int .i64 c, .string s, .int .i64 i] w fun e w' => ∃ p, e = .returned (.agg #[.string s, .pointer (some ⟨p, 0, none⟩), .int .i64 i]) ∧ ProtoAt w.heap.size w' p c ∧ Below w.heap.size w w' := by
  go_enter Tryz.func48, Tryz.ntmps48
  go_wp2_with (go_at_call 71; refine (zzPtr c hk _).mono ?_; rintro e w2 ⟨p, rfl, hp, hb⟩; obtain ⟨hc, hf⟩ := bcell hb; have hz : w.heap.size < w2.heap.size := (by have := hb.size; simp at this; omega))
  refine bodyPost_ret (v := .agg #[.string s, .pointer (some ⟨p, 0, none⟩), .int .i64 i]) (by simp [results, Tryz.results48, go_sem, hc]) rfl ⟨p, rfl, ?_, ?_⟩
  · have hp' : ProtoAt (w.heap.size + 1) w2 p c := by simpa using hp
    exact (((hp'.setCell 0 _).setCell 1 _).setCell 2 _).mono (Nat.le_succ _)
  · exact below_set3 (below_under hb) _ _ _

/-- The bytes of a component. -/
def compBytes (c : Int) (l : List UInt8) : List UInt8 := Lib.uvarint c.toNat ++ (if psz c < 0 then Lib.uvarint l.length else []) ++ l

theorem comp_has (w w2 : World) (c : Int) (V x0 x1 x2 x3 x4 x5 : Value)
    (hb : Below ((w.alloc (.cells #[.int .i64 c, V] 24)).alloc (.cells #[.string ⟨#[]⟩, .pointer none, .int .i64 0] 50)).heap.size ((w.alloc (.cells #[.int .i64 c, V] 24)).alloc (.cells #[.string ⟨#[]⟩, .pointer none, .int .i64 0] 50)) w2) :
    Has ((w2.alloc (.cells #[x0, x1, x2, x3, x4, x5] 83)).alloc (.cells #[] 5)) [(w.heap.size, 0, .int .i64 c), (w.heap.size, 1, V), (w.heap.size + 1, 0, .string ⟨#[]⟩), (w.heap.size + 1, 1, .pointer none), (w.heap.size + 1, 2, .int .i64 0), (w2.heap.size, 3, x3)] := by
  have h0 : Has ((w.alloc (.cells #[.int .i64 c, V] 24)).alloc (.cells #[.string ⟨#[]⟩, .pointer none, .int .i64 0] 50)) [(w.heap.size, 0, .int .i64 c), (w.heap.size, 1, V), (w.heap.size + 1, 0, .string ⟨#[]⟩), (w.heap.size + 1, 1, .pointer none), (w.heap.size + 1, 2, .int .i64 0)] := by
    intro x hx
    simp only [List.mem_cons, List.not_mem_nil, or_false] at hx
    rcases hx with rfl | rfl | rfl | rfl | rfl <;> simp [go_sem]
  have h1 := ((h0.belowS hb).alloc (.cells #[x0, x1, x2, x3, x4, x5] 83)).alloc (.cells #[] 5)
  intro x hx
  simp only [List.mem_cons, List.not_mem_nil, or_false] at hx
  rcases hx with rfl | rfl | rfl | rfl | rfl | rfl
  · exact h1 _ (by simp)
  · exact h1 _ (by simp)
  · exact h1 _ (by simp)
  · exact h1 _ (by simp)
  · exact h1 _ (by simp)
  · simp [go_sem]

theorem owns_empty {B : Nat} (w : World) (hb : B ≤ w.heap.size) : (w.alloc (.cells #[] 5)).ownsRow B 5 1 (.slice (some ⟨w.heap.size, 0, none⟩) 0 0) 0 (byteVals []) :=
  World.ownsRow_made w #[] 0 hb (Nat.zero_le _) rfl

theorem owns_empty1 {B : Nat} (w : World) (o : Obj) (hb : B ≤ w.heap.size + 1) : ((w.alloc o).alloc (.cells #[] 5)).ownsRow B 5 1 (.slice (some ⟨w.heap.size + 1, 0, none⟩) 0 0) 0 (byteVals []) := by
  have h := owns_empty (B := B) (w.alloc o) (by simpa using hb)
  simpa using h

theorem uvarint_code {c : Int} (hk : known c = true) : c.toNat ≤ 2147483647 ∧ 0 ≤ c := by
  rcases known_cases c with rfl | rfl | rfl | rfl | rfl | rfl | rfl | rfl | rfl | rfl | rfl | rfl | rfl | rfl | rfl | rfl | rfl | rfl | rfl | rfl | rfl | rfl | rfl | rfl | rfl | rfl | rfl | rfl | rfl | rfl | rfl | rfl | rfl | rfl | rfl | rfl | rfl | rfl | h
  all_goals first | exact ⟨by decide, by decide⟩ | skip
  simp [known, row_none h] at hk

set_option maxRecDepth 100000 in
set_option maxHeartbeats 4000000 in
theorem component_var (c : Int) (hk : known c = true) (hs : psz c < 0) (p : Option Addr) (l : List UInt8) (cp : Nat) (w : World) (hB : BytesAt w p l) (hl : l.length ≤ 2147483647) :
    Calls Tryz.prog 28 #[.agg #[.int .i64 c, .slice p l.length cp]] w fun e w' => ∃ q, e = .returned (.agg #[.string ⟨(compBytes c l).toArray⟩, .pointer (some ⟨q, 0, none⟩), .int .i64 (Lib.uvarint c.toNat ++ Lib.uvarint l.length).length]) ∧ ProtoAt w.heap.size w' q c ∧ Below w.heap.size w w' := by
  obtain ⟨i0, hi, hz0, hz1, hz2⟩ := info_parts info5
  have hne := known_ne hk
  have hcb : compBytes c l = (Lib.uvarint c.toNat ++ Lib.uvarint l.length) ++ l := by unfold compBytes; rw [if_pos hs]
  have HCB := Lib.hid hcb; clear hcb
  have hlc : (Lib.uvarint c.toNat).length ≤ 10 := Lib.uvarint_length64 (by have := (uvarint_code hk).1; omega)
  have hll : (Lib.uvarint l.length).length ≤ 10 := Lib.uvarint_length64 (by omega)
  have HB := Lib.hid hB; clear hB
  have HC := protocolWithCode c hk
  have hT := tcv_form c
  have HH := Lib.hid HC; clear HC
  generalize htv : tcv c = tv at *
  clear htv
  rcases hT with rfl | ⟨x, rfl⟩
  all_goals
    go_enter Tryz.func28, Tryz.ntmps28
    go_wp2_with (first
      | (go_at_call 47; refine (HH.out _).mono ?_; rintro e w2 ⟨v, rfl, ⟨g, hg1, hg2, rfl, hg4⟩, hb⟩; obtain ⟨hc, hf⟩ := bcell hb; have hz : w.heap.size + 1 < w2.heap.size := (by have := hb.size; simp at this; omega))
      | (at_builtin; refine wpList_append_src_own _ rfl (.tmp 18) (.tmp 20) 22 22 rfl w.heap.size 5 i0 (.int .u8 0) 1 1 Tryz.underlying22 hi hz0 hz1 hz2 rfl (w2.heap.size + 1) 0 0 (byteVals []) rfl (owns_empty1 w2 _ (by omega)) _ rfl (Lib.uvarint c.toNat).length (byteVals (Lib.uvarint c.toNat)) ?c1 ?c2 ?c3 ?c4 ?_))
    case c1 =>
      refine Src.ofSlice _ Tryz.underlying22 ⟨g, 0, none⟩ _ _ _ (by rw [byteVals_length]; omega) (fun j u hu => ?_) (byteVals_one _)
      obtain ⟨hj, rfl⟩ := byteVals_get hu
      rw [Addr.add_lit, Nat.zero_add]
      have hgl : g < w2.heap.size := hg2
      rw [World.cell?_alloc_past _ _ _ (by simp; omega), World.cell?_alloc_past _ _ _ hgl]
      exact hg4 j hj
    case c2 => unfold maxLen; omega
    case c3 => omega
    case c4 => simp; omega
    intro g1 cap1 w3 hown1 hgrow1 hgg1
    have H3 := (comp_has w w2 c (.slice p l.length cp) _ _ _ _ _ _ hb).grown hgrow1 (by
      intro x hx
      simp only [List.mem_cons, List.not_mem_nil, or_false] at hx
      rcases hx with rfl | rfl | rfl | rfl | rfl | rfl <;> simp <;> omega)
    have hb2 : Below w.heap.size w w2 := ((((Below.refl _ _).alloc (Nat.le_refl _) _).alloc (by simp) _)).trans (hb.mono (by simp; omega))
    have hb3 : Below w.heap.size w w3 := ((hb2.alloc (by omega) _).alloc (by simp; omega) _).grown hgrow1 (by simp; omega) (fun k hk => by simp at hk; omega)
    have hz3 : w2.heap.size + 2 ≤ w3.heap.size := by have := hgrow1.size; simp at this; omega
    have hown1' : w3.ownsRow w.heap.size 5 1 (.slice (some ⟨g1, 0, none⟩) (Lib.uvarint c.toNat).length cap1) (Lib.uvarint c.toNat).length (byteVals (Lib.uvarint c.toNat)) := by simpa [byteVals] using hown1
    have hg1b : w2.heap.size < g1 := by
      rcases hgg1 with h | h
      · omega
      · first | omega | (rw [h]; simp)
    clear hown1 hgrow1 hb hg4 hg2 hc hf hg1 hgg1
    have k0 := H3.cell 0 rfl
    have k1 := H3.cell 1 rfl
    have k5 := H3.cell 5 rfl
    go_wp2_with (go_at_call 49; refine (zzUvarint l.length (by omega) _).mono ?_; rintro e w4 ⟨v4, rfl, ⟨g4, hf41, hf42, rfl, hf44⟩, hb4⟩; refine Hid.out ?_)
    refine Lib.hid ?_
    have hown4 : w4.ownsRow w.heap.size 5 1 (.slice (some ⟨g1, 0, none⟩) (Lib.uvarint c.toNat).length cap1) (Lib.uvarint c.toNat).length (byteVals (Lib.uvarint c.toNat)) := hown1'.kept (row := none) ⟨hb4.os, hb4.tape, hb4.output, hb4.size, fun k hk _ => hb4.block k hk⟩ (Or.inr (by simp [Value.ownBlock]))
    have H4 := H3.belowS hb4
    have hz4 := hb4.size
    clear k0 k1 k5
    have k0 := H4.cell 0 rfl
    have k1 := H4.cell 1 rfl
    have k5 := H4.cell 5 rfl
    have hg1z : g1 < w3.heap.size := (hown1'.lt g1 rfl).2
    clear hown1' H3
    go_wp2_with (at_builtin; refine wpList_append_src_own _ rfl (.tmp 25) (.tmp 30) 22 22 rfl w.heap.size 5 i0 (.int .u8 0) 1 1 Tryz.underlying22 hi hz0 hz1 hz2 rfl g1 (Lib.uvarint c.toNat).length cap1 _ rfl hown4 _ rfl (Lib.uvarint l.length).length (byteVals (Lib.uvarint l.length)) ?e1 ?e2 ?e3 ?e4 ?_)
    case e1 =>
      refine Src.ofSlice _ Tryz.underlying22 ⟨g4, 0, none⟩ _ _ _ (by rw [byteVals_length]; omega) (fun j u hu => ?_) (byteVals_one _)
      obtain ⟨hj, rfl⟩ := byteVals_get hu
      rw [Addr.add_lit, Nat.zero_add]
      exact hf44 j hj
    case e2 => unfold maxLen; omega
    case e3 => omega
    case e4 => omega
    intro g5 cap5 w5 hown5 hgrow5 hgg5
    have H5 := H4.grown hgrow5 (by
      intro x hx
      simp only [List.mem_cons, List.not_mem_nil, or_false] at hx
      rcases hx with rfl | rfl | rfl | rfl | rfl | rfl <;> simp <;> omega)
    have hb5 : Below w.heap.size w w5 := (hb3.trans (hb4.mono (by omega))).grown hgrow5 (by omega) (fun k hk => by simp at hk; omega)
    have hz5 : w4.heap.size ≤ w5.heap.size := hgrow5.size
    have hg5b : w2.heap.size < g5 := by omega
    obtain ⟨m, hm⟩ : ∃ m, m = (Lib.uvarint c.toNat ++ Lib.uvarint l.length).length := ⟨_, rfl⟩
    have hm2 : (Lib.uvarint c.toNat).length + (Lib.uvarint l.length).length = m := by rw [hm, List.length_append]
    have hown5' : w5.ownsRow w.heap.size 5 1 (.slice (some ⟨g5, 0, none⟩) m cap5) m (byteVals (Lib.uvarint c.toNat ++ Lib.uvarint l.length)) := by
      have : byteVals (Lib.uvarint c.toNat ++ Lib.uvarint l.length) = byteVals (Lib.uvarint c.toNat) ++ byteVals (Lib.uvarint l.length) := by simp [byteVals]
      rw [this, ← hm2]; exact hown5
    rw [hm2]
    have hm20 : m ≤ 20 := by omega
    have HM := Lib.hid hm
    clear hown5 hgrow5 hown4 H4 k0 k1 k5 hm2 hm hf44
    have k0 := H5.cell 0 rfl
    have k1 := H5.cell 1 rfl
    have HB5 : BytesAt w5.drew p l := (HB.out.below hb5 HB.out.lt).drew
    have hL : (compBytes c l).length = m + l.length := by rw [HCB.out, List.length_append, HM.out]
    have hLv : byteVals (Lib.uvarint c.toNat ++ Lib.uvarint l.length) ++ byteVals l = byteVals (compBytes c l) := by rw [HCB.out]; simp [byteVals]
    have HL := Lib.hid hL; have HLv := Lib.hid hLv; clear hL hLv
    have HB6 := Lib.hid HB5; clear HB5
    go_wp2_with fail
    go_region_law (first
      | (refine step_append_src_own _ rfl (.tmp 36) (.tmp 38) 22 22 rfl w.heap.size 5 i0 (.int .u8 0) 1 1 Tryz.underlying22 hi hz0 hz1 hz2 rfl g5 m cap5 _ rfl hown5'.drew _ rfl l.length (byteVals l) (HB6.out.src Tryz.underlying22 cp) (by unfold maxLen; omega) (by omega) (by exact hb5.size) ?_; intro g6 cap6 w6 hown6 hgrow6 hgg6; have H6 := H5.drew.grown hgrow6 (by intro x hx; simp only [List.mem_cons, List.not_mem_nil, or_false] at hx; rcases hx with rfl | rfl | rfl | rfl | rfl | rfl <;> simp <;> omega); have hb6 : Below w.heap.size w w6 := (hb5.drew).grown hgrow6 (by simp; omega) (fun k hk => by simp at hk; omega); have q0 := H6.cell 0 rfl; have hcv : (convert 22 9 (.slice (some ⟨g6, 0, none⟩) (m + l.length) cap6)).run Tryz.prog w6 = .ok (.string ⟨(compBytes c l).toArray⟩) w6 := (by have h := hown6; rw [HLv.out, ← HL.out] at h; have := convert_owned h Tryz.underlying22 Tryz.underlying5 Tryz.underlying9; rw [HL.out] at this; exact this); have hz6 : w.heap.size + 2 ≤ w6.heap.size := (by have := hgrow6.size; simp at this; omega))
      | (go_simp; go_at_call 48; refine (zzComponent c hk _ _ _).mono ?_; rintro e w7 ⟨p7, rfl, hp7, hb7⟩; have H7 := H6.belowS hb7; have r0 := H7.cell 2 rfl; have r1 := H7.cell 3 rfl; have r2 := H7.cell 4 rfl; have s0 := H7.free 2 rfl; have s1 := H7.free 3 rfl; have s2 := H7.free 4 rfl))
    all_goals
      go_wp2
      refine bodyPost_ret (v := .agg #[.string ⟨(compBytes c l).toArray⟩, .pointer (some ⟨p7, 0, none⟩), .int .i64 m]) (by simp [results, Tryz.results28, go_sem, r0, r1, r2]) rfl ⟨p7, by rw [HM.out], ?_, ?_⟩
      · exact (((hp7.set (by omega) 0 _).set (by omega) 1 _).set (by omega) 2 _).mono (by omega)
      · exact (((hb6.trans (hb7.mono (by omega))).setCell (by simp) _).setCell (by simp) _).setCell (by simp) _
set_option maxRecDepth 100000 in
set_option maxHeartbeats 4000000 in
theorem component_fix (c : Int) (hk : known c = true) (hs : ¬ psz c < 0) (p : Option Addr) (l : List UInt8) (cp : Nat) (w : World) (hB : BytesAt w p l) (hl : l.length ≤ 2147483647) :
    Calls Tryz.prog 28 #[.agg #[.int .i64 c, .slice p l.length cp]] w fun e w' => ∃ q, e = .returned (.agg #[.string ⟨(compBytes c l).toArray⟩, .pointer (some ⟨q, 0, none⟩), .int .i64 (Lib.uvarint c.toNat).length]) ∧ ProtoAt w.heap.size w' q c ∧ Below w.heap.size w w' := by
  obtain ⟨i0, hi, hz0, hz1, hz2⟩ := info_parts info5
  have hne := known_ne hk
  have hcb : compBytes c l = Lib.uvarint c.toNat ++ l := by unfold compBytes; rw [if_neg hs, List.append_nil]
  have HCB := Lib.hid hcb; clear hcb
  have hlc : (Lib.uvarint c.toNat).length ≤ 10 := Lib.uvarint_length64 (by have := (uvarint_code hk).1; omega)
  have HB := Lib.hid hB; clear hB
  have HC := protocolWithCode c hk
  have hT := tcv_form c
  have HH := Lib.hid HC; clear HC
  generalize htv : tcv c = tv at *
  clear htv
  rcases hT with rfl | ⟨x, rfl⟩
  all_goals
    go_enter Tryz.func28, Tryz.ntmps28
    go_wp2_with (first
      | (go_at_call 47; refine (HH.out _).mono ?_; rintro e w2 ⟨v, rfl, ⟨g, hg1, hg2, rfl, hg4⟩, hb⟩; obtain ⟨hc, hf⟩ := bcell hb; have hz : w.heap.size + 1 < w2.heap.size := (by have := hb.size; simp at this; omega))
      | (at_builtin; refine wpList_append_src_own _ rfl (.tmp 18) (.tmp 20) 22 22 rfl w.heap.size 5 i0 (.int .u8 0) 1 1 Tryz.underlying22 hi hz0 hz1 hz2 rfl (w2.heap.size + 1) 0 0 (byteVals []) rfl (owns_empty1 w2 _ (by omega)) _ rfl (Lib.uvarint c.toNat).length (byteVals (Lib.uvarint c.toNat)) ?c1 ?c2 ?c3 ?c4 ?_))
    case c1 =>
      refine Src.ofSlice _ Tryz.underlying22 ⟨g, 0, none⟩ _ _ _ (by rw [byteVals_length]; omega) (fun j u hu => ?_) (byteVals_one _)
      obtain ⟨hj, rfl⟩ := byteVals_get hu
      rw [Addr.add_lit, Nat.zero_add]
      have hgl : g < w2.heap.size := hg2
      rw [World.cell?_alloc_past _ _ _ (by simp; omega), World.cell?_alloc_past _ _ _ hgl]
      exact hg4 j hj
    case c2 => unfold maxLen; omega
    case c3 => omega
    case c4 => simp; omega
    intro g1 cap1 w3 hown1 hgrow1 hgg1
    have H3 := (comp_has w w2 c (.slice p l.length cp) _ _ _ _ _ _ hb).grown hgrow1 (by
      intro x hx
      simp only [List.mem_cons, List.not_mem_nil, or_false] at hx
      rcases hx with rfl | rfl | rfl | rfl | rfl | rfl <;> simp <;> omega)
    have hb2 : Below w.heap.size w w2 := ((((Below.refl _ _).alloc (Nat.le_refl _) _).alloc (by simp) _)).trans (hb.mono (by simp; omega))
    have hb3 : Below w.heap.size w w3 := ((hb2.alloc (by omega) _).alloc (by simp; omega) _).grown hgrow1 (by simp; omega) (fun k hk => by simp at hk; omega)
    have hz3 : w2.heap.size + 2 ≤ w3.heap.size := by have := hgrow1.size; simp at this; omega
    have hown1' : w3.ownsRow w.heap.size 5 1 (.slice (some ⟨g1, 0, none⟩) (Lib.uvarint c.toNat).length cap1) (Lib.uvarint c.toNat).length (byteVals (Lib.uvarint c.toNat)) := by simpa [byteVals] using hown1
    have hg1b : w2.heap.size < g1 := by
      rcases hgg1 with h | h
      · omega
      · first | omega | (rw [h]; simp)
    clear hown1 hgrow1 hb hg4 hg2 hc hf hg1 hgg1
    have k0 := H3.cell 0 rfl
    have k1 := H3.cell 1 rfl
    have k5 := H3.cell 5 rfl
    have HB5 : BytesAt w3.drew p l := (HB.out.below hb3 HB.out.lt).drew
    have hL : (compBytes c l).length = (Lib.uvarint c.toNat).length + l.length := by rw [HCB.out, List.length_append]
    have hLv : byteVals (Lib.uvarint c.toNat) ++ byteVals l = byteVals (compBytes c l) := by rw [HCB.out]; simp [byteVals]
    have HL := Lib.hid hL; have HLv := Lib.hid hLv; clear hL hLv
    have HB6 := Lib.hid HB5; clear HB5
    go_wp2_with fail
    go_region_law (first
      | (refine step_append_src_own _ rfl (.tmp 36) (.tmp 38) 22 22 rfl w.heap.size 5 i0 (.int .u8 0) 1 1 Tryz.underlying22 hi hz0 hz1 hz2 rfl g1 (Lib.uvarint c.toNat).length cap1 _ rfl hown1'.drew _ rfl l.length (byteVals l) (HB6.out.src Tryz.underlying22 cp) (by unfold maxLen; omega) (by omega) (by exact hb3.size) ?_; intro g6 cap6 w6 hown6 hgrow6 hgg6; have H6 := H3.drew.grown hgrow6 (by intro x hx; simp only [List.mem_cons, List.not_mem_nil, or_false] at hx; rcases hx with rfl | rfl | rfl | rfl | rfl | rfl <;> simp <;> omega); have hb6 : Below w.heap.size w w6 := (hb3.drew).grown hgrow6 (by simp; omega) (fun k hk => by simp at hk; omega); have q0 := H6.cell 0 rfl; have hcv : (convert 22 9 (.slice (some ⟨g6, 0, none⟩) ((Lib.uvarint c.toNat).length + l.length) cap6)).run Tryz.prog w6 = .ok (.string ⟨(compBytes c l).toArray⟩) w6 := (by have h := hown6; rw [HLv.out, ← HL.out] at h; have := convert_owned h Tryz.underlying22 Tryz.underlying5 Tryz.underlying9; rw [HL.out] at this; exact this); have hz6 : w.heap.size + 2 ≤ w6.heap.size := (by have := hgrow6.size; simp at this; omega))
      | (go_simp; go_at_call 48; refine (zzComponent c hk _ _ _).mono ?_; rintro e w7 ⟨p7, rfl, hp7, hb7⟩; have H7 := H6.belowS hb7; have r0 := H7.cell 2 rfl; have r1 := H7.cell 3 rfl; have r2 := H7.cell 4 rfl; have s0 := H7.free 2 rfl; have s1 := H7.free 3 rfl; have s2 := H7.free 4 rfl))
    all_goals
      go_wp2
      refine bodyPost_ret (v := .agg #[.string ⟨(compBytes c l).toArray⟩, .pointer (some ⟨p7, 0, none⟩), .int .i64 (Lib.uvarint c.toNat).length]) (by simp [results, Tryz.results28, go_sem, r0, r1, r2]) rfl ⟨p7, rfl, ?_, ?_⟩
      · exact (((hp7.set (by omega) 0 _).set (by omega) 1 _).set (by omega) 2 _).mono (by omega)
      · exact (((hb6.trans (hb7.mono (by omega))).setCell (by simp) _).setCell (by simp) _).setCell (by simp) _

/-- What stands ahead of a component's value. -/
def headBytes (c : Int) (n : Nat) : List UInt8 := Lib.uvarint c.toNat ++ (if psz c < 0 then Lib.uvarint n else [])

theorem component (c : Int) (hk : known c = true) (p : Option Addr) (l : List UInt8) (cp : Nat) (w : World) (hB : BytesAt w p l) (hl : l.length ≤ 2147483647) :
    Calls Tryz.prog 28 #[.agg #[.int .i64 c, .slice p l.length cp]] w fun e w' => ∃ q, e = .returned (.agg #[.string ⟨(compBytes c l).toArray⟩, .pointer (some ⟨q, 0, none⟩), .int .i64 (headBytes c l.length).length]) ∧ ProtoAt w.heap.size w' q c ∧ Below w.heap.size w w' := by
  by_cases hs : psz c < 0
  · have := component_var c hk hs p l cp w hB hl
    simpa [headBytes, hs] using this
  · have := component_fix c hk hs p l cp w hB hl
    simpa [headBytes, hs] using this
end Go.Proofs.YtnpcmmjdojdmnaaGreatDoor
