/- zzCoded at every code of the table; ProtocolWithCode; zzPtr. -/
import Derived.Test.YtnpcmmjdojdmnaaGreatDoorQf
import Derived.Test.YtnpcmmjdojdmnaaGreatDoorQf
import Derived.Test.YtnpcmmjdojdmnaaGreatDoorQg
import Derived.Test.YtnpcmmjdojdmnaaGreatDoorQg
namespace Go.Proofs.YtnpcmmjdojdmnaaGreatDoor
open Go Go.RowKit

theorem zzCoded (c : Int) (hk : known c = true) (w : World) : Calls Tryz.prog 70 #[.int .i64 c] w fun e w' => ∃ vc, e = .returned (.agg #[.string (pname c), .int .i64 c, vc, .int .i64 (psz c), .bool (ppath c), tcv c]) ∧ Fresh w.heap.size w' vc (Lib.uvarint c.toNat) ∧ Below w.heap.size w w' := by
  rcases known_cases c with rfl | rfl | rfl | rfl | rfl | rfl | rfl | rfl | rfl | rfl | rfl | rfl | rfl | rfl | rfl | rfl | rfl | rfl | rfl | rfl | rfl | rfl | rfl | rfl | rfl | rfl | rfl | rfl | rfl | rfl | rfl | rfl | rfl | rfl | rfl | rfl | rfl | rfl | h
  · exact zzCoded4 w
  · exact zzCoded6 w
  · exact zzCoded33 w
  · exact zzCoded41 w
  · exact zzCoded42 w
  · exact zzCoded43 w
  · exact zzCoded53 w
  · exact zzCoded54 w
  · exact zzCoded55 w
  · exact zzCoded56 w
  · exact zzCoded132 w
  · exact zzCoded273 w
  · exact zzCoded276 w
  · exact zzCoded280 w
  · exact zzCoded281 w
  · exact zzCoded290 w
  · exact zzCoded301 w
  · exact zzCoded302 w
  · exact zzCoded400 w
  · exact zzCoded421 w
  · exact zzCoded443 w
  · exact zzCoded444 w
  · exact zzCoded445 w
  · exact zzCoded446 w
  · exact zzCoded447 w
  · exact zzCoded448 w
  · exact zzCoded449 w
  · exact zzCoded454 w
  · exact zzCoded460 w
  · exact zzCoded461 w
  · exact zzCoded465 w
  · exact zzCoded466 w
  · exact zzCoded477 w
  · exact zzCoded478 w
  · exact zzCoded480 w
  · exact zzCoded481 w
  · exact zzCoded777 w
  · exact zzCoded7367777 w
  · simp [known, row_none h] at hk

theorem tcv_form (c : Int) : tcv c = .nilIface ∨ ∃ x, tcv c = .iface 177 x := by
  rcases known_cases c with rfl | rfl | rfl | rfl | rfl | rfl | rfl | rfl | rfl | rfl | rfl | rfl | rfl | rfl | rfl | rfl | rfl | rfl | rfl | rfl | rfl | rfl | rfl | rfl | rfl | rfl | rfl | rfl | rfl | rfl | rfl | rfl | rfl | rfl | rfl | rfl | rfl | rfl | h
  all_goals first | exact Or.inr ⟨_, rfl⟩ | exact Or.inl rfl | skip
  refine Or.inl ?_
  obtain ⟨h4, h6, h33, h41, h42, h43, h53, h54, h55, h56, h132, h273, h276, h280, h281, h290, h301, h302, h400, h421, h443, h444, h445, h446, h447, h448, h449, h454, h460, h461, h465, h466, h477, h478, h480, h481, h777, h7367777⟩ := h
  simp only [tcv, h4, h6, h33, h41, h42, h43, h53, h54, h55, h56, h132, h273, h400, h421, h444, h445, h446, h447, h449, h466, h481, h777, if_false]

theorem known_ne {c : Int} (h : known c = true) : (c == 0) = false := by
  cases hc : (c == 0) with
  | false => rfl
  | true =>
    rw [beq_iff_eq] at hc
    subst hc
    exact absurd h (by decide)

/-- A protocol of the table in memory. -/
def ProtoAt (B : Nat) (w : World) (p : Nat) (c : Int) : Prop :=
  B ≤ p ∧ p < w.heap.size ∧ ∃ vc, Fresh B w vc (Lib.uvarint c.toNat) ∧ w.cell? ⟨p, 0, none⟩ = some (.string (pname c)) ∧ w.cell? ⟨p, 1, none⟩ = some (.int .i64 c) ∧ w.cell? ⟨p, 2, none⟩ = some vc ∧
    w.cell? ⟨p, 3, none⟩ = some (.int .i64 (psz c)) ∧ w.cell? ⟨p, 4, none⟩ = some (.bool (ppath c)) ∧ w.cell? ⟨p, 5, none⟩ = some (tcv c)

theorem protocolWithCode (c : Int) (hk : known c = true) (w : World) : Calls Tryz.prog 47 #[.int .i64 c] w fun e w' => ∃ vc, e = .returned (.agg #[.string (pname c), .int .i64 c, vc, .int .i64 (psz c), .bool (ppath c), tcv c]) ∧ Fresh w.heap.size w' vc (Lib.uvarint c.toNat) ∧ Below w.heap.size w w' := by
  have HC := zzCoded c hk
  have hT := tcv_form c
  generalize tcv c = tv at *
  have HH := Lib.hid HC; clear HC
  rcases hT with rfl | ⟨x, rfl⟩
  all_goals
    go_enter Tryz.func47, Tryz.ntmps47
    go_wp2_with (go_at_call 70; refine (HH.out _).mono ?_; rintro e w2 ⟨v, rfl, ⟨g, hg1, hg2, rfl, hg4⟩, hb⟩; obtain ⟨hc, hf⟩ := bcell hb; have hz : w.heap.size < w2.heap.size := (by have := hb.size; simp at this; omega))
    refine bodyPost_ret (v := .agg #[.string (pname c), .int .i64 c, .slice (some ⟨g, 0, none⟩) (Lib.uvarint c.toNat).length (Lib.uvarint c.toNat).length, .int .i64 (psz c), .bool (ppath c), _]) (by simp [results, Tryz.results47, go_sem, hc]) rfl ⟨_, rfl, ?_, ?_⟩
    · have hF : Fresh (w.heap.size + 1) w2 (.slice (some ⟨g, 0, none⟩) (Lib.uvarint c.toNat).length (Lib.uvarint c.toNat).length) (Lib.uvarint c.toNat) := ⟨g, by simpa using hg1, hg2, rfl, hg4⟩
      exact hF.set6 _ _ _ _ _ _
    · exact below_set6 (below_under hb) _ _ _ _ _ _

theorem zzPtr (c : Int) (hk : known c = true) (w : World) : Calls Tryz.prog 71 #[.int .i64 c] w fun e w' => ∃ p, e = .returned (.pointer (some ⟨p, 0, none⟩)) ∧ ProtoAt w.heap.size w' p c ∧ Below w.heap.size w w' := by
  have HC := zzCoded c hk
  have hT := tcv_form c
  have hne := known_ne hk
  unfold ProtoAt
  generalize tcv c = tv at *
  have HH := Lib.hid HC; clear HC
  rcases hT with rfl | ⟨x, rfl⟩
  all_goals
    go_enter Tryz.func71, Tryz.ntmps71
    go_wp2_with (go_at_call 70; refine (HH.out _).mono ?_; rintro e w2 ⟨v, rfl, ⟨g, hg1, hg2, rfl, hg4⟩, hb⟩)
    go_ret
    refine ⟨w2.heap.size, rfl, ⟨hb.size, by simp, .slice (some ⟨g, 0, none⟩) (Lib.uvarint c.toNat).length (Lib.uvarint c.toNat).length, ?_, ?_, ?_, ?_, ?_, ?_, ?_⟩, hb.alloc hb.size _⟩
    · exact Fresh.below ⟨g, hg1, hg2, rfl, hg4⟩ ((Below.refl _ _).alloc (Nat.le_refl _) _) (Nat.le_refl _)
    all_goals simp [go_sem]

end Go.Proofs.YtnpcmmjdojdmnaaGreatDoor
