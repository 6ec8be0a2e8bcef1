/- zzCoded at the codes of the table: part 2. zzCoded at the codes of the table: part 3. -/
import Derived.Test.YtnpcmmjdojdmnaaGreatDoorQe
namespace Go.Proofs.YtnpcmmjdojdmnaaGreatDoor
open Go Go.RowKit

set_option maxHeartbeats 800000 in
theorem zzCoded53 (w : World) : Calls Tryz.prog 70 #[.int .i64 53] w fun e w' => ∃ vc, e = .returned (.agg #[.string ⟨#[100, 110, 115]⟩, .int .i64 53, vc, .int .i64 (-1), .bool false, tcG 203 204 205]) ∧ Fresh w.heap.size w' vc (Lib.uvarint 53) ∧ Below w.heap.size w w' := by
  go_enter Tryz.func70, Tryz.ntmps70
  go_wp2_with (go_at_call 111; refine (proto53 _).mono ?_; rintro e w2 ⟨v, rfl, ⟨g, hg1, hg2, rfl, hg4⟩, hb⟩; obtain ⟨hc, hf⟩ := bcell hb; have hz : w.heap.size < w2.heap.size := (by have := hb.size; simp at this; omega))
  refine bodyPost_ret (v := .agg #[.string ⟨#[100, 110, 115]⟩, .int .i64 53, .slice (some ⟨g, 0, none⟩) (Lib.uvarint 53).length (Lib.uvarint 53).length, .int .i64 (-1), .bool false, tcG 203 204 205]) (by simp [results, Tryz.results70, go_sem, hc]) rfl ⟨_, rfl, ?_, ?_⟩
  · have hF : Fresh (w.heap.size + 1) w2 (.slice (some ⟨g, 0, none⟩) (Lib.uvarint 53).length (Lib.uvarint 53).length) (Lib.uvarint 53) := ⟨g, by simpa using hg1, hg2, rfl, hg4⟩
    exact hF.set6 _ _ _ _ _ _
  · exact below_set6 (below_under hb) _ _ _ _ _ _

set_option maxHeartbeats 800000 in
theorem zzCoded273 (w : World) : Calls Tryz.prog 70 #[.int .i64 273] w fun e w' => ∃ vc, e = .returned (.agg #[.string ⟨#[117, 100, 112]⟩, .int .i64 273, vc, .int .i64 16, .bool false, tcF 201 202]) ∧ Fresh w.heap.size w' vc (Lib.uvarint 273) ∧ Below w.heap.size w w' := by
  go_enter Tryz.func70, Tryz.ntmps70
  go_wp2_with (go_at_call 115; refine (proto273 _).mono ?_; rintro e w2 ⟨v, rfl, ⟨g, hg1, hg2, rfl, hg4⟩, hb⟩; obtain ⟨hc, hf⟩ := bcell hb; have hz : w.heap.size < w2.heap.size := (by have := hb.size; simp at this; omega))
  refine bodyPost_ret (v := .agg #[.string ⟨#[117, 100, 112]⟩, .int .i64 273, .slice (some ⟨g, 0, none⟩) (Lib.uvarint 273).length (Lib.uvarint 273).length, .int .i64 16, .bool false, tcF 201 202]) (by simp [results, Tryz.results70, go_sem, hc]) rfl ⟨_, rfl, ?_, ?_⟩
  · have hF : Fresh (w.heap.size + 1) w2 (.slice (some ⟨g, 0, none⟩) (Lib.uvarint 273).length (Lib.uvarint 273).length) (Lib.uvarint 273) := ⟨g, by simpa using hg1, hg2, rfl, hg4⟩
    exact hF.set6 _ _ _ _ _ _
  · exact below_set6 (below_under hb) _ _ _ _ _ _

set_option maxHeartbeats 800000 in
theorem zzCoded43 (w : World) : Calls Tryz.prog 70 #[.int .i64 43] w fun e w' => ∃ vc, e = .returned (.agg #[.string ⟨#[105, 112, 99, 105, 100, 114]⟩, .int .i64 43, vc, .int .i64 8, .bool false, tcG 211 212 213]) ∧ Fresh w.heap.size w' vc (Lib.uvarint 43) ∧ Below w.heap.size w w' := by
  go_enter Tryz.func70, Tryz.ntmps70
  go_wp2_with (go_at_call 119; refine (proto43 _).mono ?_; rintro e w2 ⟨v, rfl, ⟨g, hg1, hg2, rfl, hg4⟩, hb⟩; obtain ⟨hc, hf⟩ := bcell hb; have hz : w.heap.size < w2.heap.size := (by have := hb.size; simp at this; omega))
  refine bodyPost_ret (v := .agg #[.string ⟨#[105, 112, 99, 105, 100, 114]⟩, .int .i64 43, .slice (some ⟨g, 0, none⟩) (Lib.uvarint 43).length (Lib.uvarint 43).length, .int .i64 8, .bool false, tcG 211 212 213]) (by simp [results, Tryz.results70, go_sem, hc]) rfl ⟨_, rfl, ?_, ?_⟩
  · have hF : Fresh (w.heap.size + 1) w2 (.slice (some ⟨g, 0, none⟩) (Lib.uvarint 43).length (Lib.uvarint 43).length) (Lib.uvarint 43) := ⟨g, by simpa using hg1, hg2, rfl, hg4⟩
    exact hF.set6 _ _ _ _ _ _
  · exact below_set6 (below_under hb) _ _ _ _ _ _

set_option maxHeartbeats 800000 in
theorem zzCoded445 (w : World) : Calls Tryz.prog 70 #[.int .i64 445] w fun e w' => ∃ vc, e = .returned (.agg #[.string ⟨#[111, 110, 105, 111, 110, 51]⟩, .int .i64 445, vc, .int .i64 296, .bool false, tcG 217 218 219]) ∧ Fresh w.heap.size w' vc (Lib.uvarint 445) ∧ Below w.heap.size w w' := by
  go_enter Tryz.func70, Tryz.ntmps70
  go_wp2_with (go_at_call 123; refine (proto445 _).mono ?_; rintro e w2 ⟨v, rfl, ⟨g, hg1, hg2, rfl, hg4⟩, hb⟩; obtain ⟨hc, hf⟩ := bcell hb; have hz : w.heap.size < w2.heap.size := (by have := hb.size; simp at this; omega))
  refine bodyPost_ret (v := .agg #[.string ⟨#[111, 110, 105, 111, 110, 51]⟩, .int .i64 445, .slice (some ⟨g, 0, none⟩) (Lib.uvarint 445).length (Lib.uvarint 445).length, .int .i64 296, .bool false, tcG 217 218 219]) (by simp [results, Tryz.results70, go_sem, hc]) rfl ⟨_, rfl, ?_, ?_⟩
  · have hF : Fresh (w.heap.size + 1) w2 (.slice (some ⟨g, 0, none⟩) (Lib.uvarint 445).length (Lib.uvarint 445).length) (Lib.uvarint 445) := ⟨g, by simpa using hg1, hg2, rfl, hg4⟩
    exact hF.set6 _ _ _ _ _ _
  · exact below_set6 (below_under hb) _ _ _ _ _ _

set_option maxHeartbeats 800000 in
theorem zzCoded301 (w : World) : Calls Tryz.prog 70 #[.int .i64 301] w fun e w' => ∃ vc, e = .returned (.agg #[.string ⟨#[117, 100, 116]⟩, .int .i64 301, vc, .int .i64 0, .bool false, .nilIface]) ∧ Fresh w.heap.size w' vc (Lib.uvarint 301) ∧ Below w.heap.size w w' := by
  go_enter Tryz.func70, Tryz.ntmps70
  go_wp2_with (go_at_call 127; refine (proto301 _).mono ?_; rintro e w2 ⟨v, rfl, ⟨g, hg1, hg2, rfl, hg4⟩, hb⟩; obtain ⟨hc, hf⟩ := bcell hb; have hz : w.heap.size < w2.heap.size := (by have := hb.size; simp at this; omega))
  refine bodyPost_ret (v := .agg #[.string ⟨#[117, 100, 116]⟩, .int .i64 301, .slice (some ⟨g, 0, none⟩) (Lib.uvarint 301).length (Lib.uvarint 301).length, .int .i64 0, .bool false, .nilIface]) (by simp [results, Tryz.results70, go_sem, hc]) rfl ⟨_, rfl, ?_, ?_⟩
  · have hF : Fresh (w.heap.size + 1) w2 (.slice (some ⟨g, 0, none⟩) (Lib.uvarint 301).length (Lib.uvarint 301).length) (Lib.uvarint 301) := ⟨g, by simpa using hg1, hg2, rfl, hg4⟩
    exact hF.set6 _ _ _ _ _ _
  · exact below_set6 (below_under hb) _ _ _ _ _ _

set_option maxHeartbeats 800000 in
theorem zzCoded466 (w : World) : Calls Tryz.prog 70 #[.int .i64 466] w fun e w' => ∃ vc, e = .returned (.agg #[.string ⟨#[99, 101, 114, 116, 104, 97, 115, 104]⟩, .int .i64 466, vc, .int .i64 (-1), .bool false, tcG 226 227 228]) ∧ Fresh w.heap.size w' vc (Lib.uvarint 466) ∧ Below w.heap.size w w' := by
  go_enter Tryz.func70, Tryz.ntmps70
  go_wp2_with (go_at_call 131; refine (proto466 _).mono ?_; rintro e w2 ⟨v, rfl, ⟨g, hg1, hg2, rfl, hg4⟩, hb⟩; obtain ⟨hc, hf⟩ := bcell hb; have hz : w.heap.size < w2.heap.size := (by have := hb.size; simp at this; omega))
  refine bodyPost_ret (v := .agg #[.string ⟨#[99, 101, 114, 116, 104, 97, 115, 104]⟩, .int .i64 466, .slice (some ⟨g, 0, none⟩) (Lib.uvarint 466).length (Lib.uvarint 466).length, .int .i64 (-1), .bool false, tcG 226 227 228]) (by simp [results, Tryz.results70, go_sem, hc]) rfl ⟨_, rfl, ?_, ?_⟩
  · have hF : Fresh (w.heap.size + 1) w2 (.slice (some ⟨g, 0, none⟩) (Lib.uvarint 466).length (Lib.uvarint 466).length) (Lib.uvarint 466) := ⟨g, by simpa using hg1, hg2, rfl, hg4⟩
    exact hF.set6 _ _ _ _ _ _
  · exact below_set6 (below_under hb) _ _ _ _ _ _

set_option maxHeartbeats 800000 in
theorem zzCoded421 (w : World) : Calls Tryz.prog 70 #[.int .i64 421] w fun e w' => ∃ vc, e = .returned (.agg #[.string ⟨#[112, 50, 112]⟩, .int .i64 421, vc, .int .i64 (-1), .bool false, tcG 232 233 234]) ∧ Fresh w.heap.size w' vc (Lib.uvarint 421) ∧ Below w.heap.size w w' := by
  go_enter Tryz.func70, Tryz.ntmps70
  go_wp2_with (go_at_call 135; refine (proto421 _).mono ?_; rintro e w2 ⟨v, rfl, ⟨g, hg1, hg2, rfl, hg4⟩, hb⟩; obtain ⟨hc, hf⟩ := bcell hb; have hz : w.heap.size < w2.heap.size := (by have := hb.size; simp at this; omega))
  refine bodyPost_ret (v := .agg #[.string ⟨#[112, 50, 112]⟩, .int .i64 421, .slice (some ⟨g, 0, none⟩) (Lib.uvarint 421).length (Lib.uvarint 421).length, .int .i64 (-1), .bool false, tcG 232 233 234]) (by simp [results, Tryz.results70, go_sem, hc]) rfl ⟨_, rfl, ?_, ?_⟩
  · have hF : Fresh (w.heap.size + 1) w2 (.slice (some ⟨g, 0, none⟩) (Lib.uvarint 421).length (Lib.uvarint 421).length) (Lib.uvarint 421) := ⟨g, by simpa using hg1, hg2, rfl, hg4⟩
    exact hF.set6 _ _ _ _ _ _
  · exact below_set6 (below_under hb) _ _ _ _ _ _

set_option maxHeartbeats 800000 in
theorem zzCoded449 (w : World) : Calls Tryz.prog 70 #[.int .i64 449] w fun e w' => ∃ vc, e = .returned (.agg #[.string ⟨#[115, 110, 105]⟩, .int .i64 449, vc, .int .i64 (-1), .bool false, tcG 203 204 205]) ∧ Fresh w.heap.size w' vc (Lib.uvarint 449) ∧ Below w.heap.size w w' := by
  go_enter Tryz.func70, Tryz.ntmps70
  go_wp2_with (go_at_call 139; refine (proto449 _).mono ?_; rintro e w2 ⟨v, rfl, ⟨g, hg1, hg2, rfl, hg4⟩, hb⟩; obtain ⟨hc, hf⟩ := bcell hb; have hz : w.heap.size < w2.heap.size := (by have := hb.size; simp at this; omega))
  refine bodyPost_ret (v := .agg #[.string ⟨#[115, 110, 105]⟩, .int .i64 449, .slice (some ⟨g, 0, none⟩) (Lib.uvarint 449).length (Lib.uvarint 449).length, .int .i64 (-1), .bool false, tcG 203 204 205]) (by simp [results, Tryz.results70, go_sem, hc]) rfl ⟨_, rfl, ?_, ?_⟩
  · have hF : Fresh (w.heap.size + 1) w2 (.slice (some ⟨g, 0, none⟩) (Lib.uvarint 449).length (Lib.uvarint 449).length) (Lib.uvarint 449) := ⟨g, by simpa using hg1, hg2, rfl, hg4⟩
    exact hF.set6 _ _ _ _ _ _
  · exact below_set6 (below_under hb) _ _ _ _ _ _

set_option maxHeartbeats 800000 in
theorem zzCoded7367777 (w : World) : Calls Tryz.prog 70 #[.int .i64 7367777] w fun e w' => ∃ vc, e = .returned (.agg #[.string ⟨#[112, 108, 97, 105, 110, 116, 101, 120, 116, 118, 50]⟩, .int .i64 7367777, vc, .int .i64 0, .bool false, .nilIface]) ∧ Fresh w.heap.size w' vc (Lib.uvarint 7367777) ∧ Below w.heap.size w w' := by
  go_enter Tryz.func70, Tryz.ntmps70
  go_wp2_with (go_at_call 143; refine (proto7367777 _).mono ?_; rintro e w2 ⟨v, rfl, ⟨g, hg1, hg2, rfl, hg4⟩, hb⟩; obtain ⟨hc, hf⟩ := bcell hb; have hz : w.heap.size < w2.heap.size := (by have := hb.size; simp at this; omega))
  refine bodyPost_ret (v := .agg #[.string ⟨#[112, 108, 97, 105, 110, 116, 101, 120, 116, 118, 50]⟩, .int .i64 7367777, .slice (some ⟨g, 0, none⟩) (Lib.uvarint 7367777).length (Lib.uvarint 7367777).length, .int .i64 0, .bool false, .nilIface]) (by simp [results, Tryz.results70, go_sem, hc]) rfl ⟨_, rfl, ?_, ?_⟩
  · have hF : Fresh (w.heap.size + 1) w2 (.slice (some ⟨g, 0, none⟩) (Lib.uvarint 7367777).length (Lib.uvarint 7367777).length) (Lib.uvarint 7367777) := ⟨g, by simpa using hg1, hg2, rfl, hg4⟩
    exact hF.set6 _ _ _ _ _ _
  · exact below_set6 (below_under hb) _ _ _ _ _ _

end Go.Proofs.YtnpcmmjdojdmnaaGreatDoor
namespace Go.Proofs.YtnpcmmjdojdmnaaGreatDoor
open Go Go.RowKit

set_option maxHeartbeats 800000 in
theorem zzCoded54 (w : World) : Calls Tryz.prog 70 #[.int .i64 54] w fun e w' => ∃ vc, e = .returned (.agg #[.string ⟨#[100, 110, 115, 52]⟩, .int .i64 54, vc, .int .i64 (-1), .bool false, tcG 203 204 205]) ∧ Fresh w.heap.size w' vc (Lib.uvarint 54) ∧ Below w.heap.size w w' := by
  go_enter Tryz.func70, Tryz.ntmps70
  go_wp2_with (go_at_call 112; refine (proto54 _).mono ?_; rintro e w2 ⟨v, rfl, ⟨g, hg1, hg2, rfl, hg4⟩, hb⟩; obtain ⟨hc, hf⟩ := bcell hb; have hz : w.heap.size < w2.heap.size := (by have := hb.size; simp at this; omega))
  refine bodyPost_ret (v := .agg #[.string ⟨#[100, 110, 115, 52]⟩, .int .i64 54, .slice (some ⟨g, 0, none⟩) (Lib.uvarint 54).length (Lib.uvarint 54).length, .int .i64 (-1), .bool false, tcG 203 204 205]) (by simp [results, Tryz.results70, go_sem, hc]) rfl ⟨_, rfl, ?_, ?_⟩
  · have hF : Fresh (w.heap.size + 1) w2 (.slice (some ⟨g, 0, none⟩) (Lib.uvarint 54).length (Lib.uvarint 54).length) (Lib.uvarint 54) := ⟨g, by simpa using hg1, hg2, rfl, hg4⟩
    exact hF.set6 _ _ _ _ _ _
  · exact below_set6 (below_under hb) _ _ _ _ _ _

set_option maxHeartbeats 800000 in
theorem zzCoded33 (w : World) : Calls Tryz.prog 70 #[.int .i64 33] w fun e w' => ∃ vc, e = .returned (.agg #[.string ⟨#[100, 99, 99, 112]⟩, .int .i64 33, vc, .int .i64 16, .bool false, tcF 201 202]) ∧ Fresh w.heap.size w' vc (Lib.uvarint 33) ∧ Below w.heap.size w w' := by
  go_enter Tryz.func70, Tryz.ntmps70
  go_wp2_with (go_at_call 116; refine (proto33 _).mono ?_; rintro e w2 ⟨v, rfl, ⟨g, hg1, hg2, rfl, hg4⟩, hb⟩; obtain ⟨hc, hf⟩ := bcell hb; have hz : w.heap.size < w2.heap.size := (by have := hb.size; simp at this; omega))
  refine bodyPost_ret (v := .agg #[.string ⟨#[100, 99, 99, 112]⟩, .int .i64 33, .slice (some ⟨g, 0, none⟩) (Lib.uvarint 33).length (Lib.uvarint 33).length, .int .i64 16, .bool false, tcF 201 202]) (by simp [results, Tryz.results70, go_sem, hc]) rfl ⟨_, rfl, ?_, ?_⟩
  · have hF : Fresh (w.heap.size + 1) w2 (.slice (some ⟨g, 0, none⟩) (Lib.uvarint 33).length (Lib.uvarint 33).length) (Lib.uvarint 33) := ⟨g, by simpa using hg1, hg2, rfl, hg4⟩
    exact hF.set6 _ _ _ _ _ _
  · exact below_set6 (below_under hb) _ _ _ _ _ _

set_option maxHeartbeats 800000 in
theorem zzCoded132 (w : World) : Calls Tryz.prog 70 #[.int .i64 132] w fun e w' => ∃ vc, e = .returned (.agg #[.string ⟨#[115, 99, 116, 112]⟩, .int .i64 132, vc, .int .i64 16, .bool false, tcF 201 202]) ∧ Fresh w.heap.size w' vc (Lib.uvarint 132) ∧ Below w.heap.size w w' := by
  go_enter Tryz.func70, Tryz.ntmps70
  go_wp2_with (go_at_call 120; refine (proto132 _).mono ?_; rintro e w2 ⟨v, rfl, ⟨g, hg1, hg2, rfl, hg4⟩, hb⟩; obtain ⟨hc, hf⟩ := bcell hb; have hz : w.heap.size < w2.heap.size := (by have := hb.size; simp at this; omega))
  refine bodyPost_ret (v := .agg #[.string ⟨#[115, 99, 116, 112]⟩, .int .i64 132, .slice (some ⟨g, 0, none⟩) (Lib.uvarint 132).length (Lib.uvarint 132).length, .int .i64 16, .bool false, tcF 201 202]) (by simp [results, Tryz.results70, go_sem, hc]) rfl ⟨_, rfl, ?_, ?_⟩
  · have hF : Fresh (w.heap.size + 1) w2 (.slice (some ⟨g, 0, none⟩) (Lib.uvarint 132).length (Lib.uvarint 132).length) (Lib.uvarint 132) := ⟨g, by simpa using hg1, hg2, rfl, hg4⟩
    exact hF.set6 _ _ _ _ _ _
  · exact below_set6 (below_under hb) _ _ _ _ _ _

set_option maxHeartbeats 800000 in
theorem zzCoded446 (w : World) : Calls Tryz.prog 70 #[.int .i64 446] w fun e w' => ∃ vc, e = .returned (.agg #[.string ⟨#[103, 97, 114, 108, 105, 99, 54, 52]⟩, .int .i64 446, vc, .int .i64 (-1), .bool false, tcG 220 221 222]) ∧ Fresh w.heap.size w' vc (Lib.uvarint 446) ∧ Below w.heap.size w w' := by
  go_enter Tryz.func70, Tryz.ntmps70
  go_wp2_with (go_at_call 124; refine (proto446 _).mono ?_; rintro e w2 ⟨v, rfl, ⟨g, hg1, hg2, rfl, hg4⟩, hb⟩; obtain ⟨hc, hf⟩ := bcell hb; have hz : w.heap.size < w2.heap.size := (by have := hb.size; simp at this; omega))
  refine bodyPost_ret (v := .agg #[.string ⟨#[103, 97, 114, 108, 105, 99, 54, 52]⟩, .int .i64 446, .slice (some ⟨g, 0, none⟩) (Lib.uvarint 446).length (Lib.uvarint 446).length, .int .i64 (-1), .bool false, tcG 220 221 222]) (by simp [results, Tryz.results70, go_sem, hc]) rfl ⟨_, rfl, ?_, ?_⟩
  · have hF : Fresh (w.heap.size + 1) w2 (.slice (some ⟨g, 0, none⟩) (Lib.uvarint 446).length (Lib.uvarint 446).length) (Lib.uvarint 446) := ⟨g, by simpa using hg1, hg2, rfl, hg4⟩
    exact hF.set6 _ _ _ _ _ _
  · exact below_set6 (below_under hb) _ _ _ _ _ _

set_option maxHeartbeats 800000 in
theorem zzCoded460 (w : World) : Calls Tryz.prog 70 #[.int .i64 460] w fun e w' => ∃ vc, e = .returned (.agg #[.string ⟨#[113, 117, 105, 99]⟩, .int .i64 460, vc, .int .i64 0, .bool false, .nilIface]) ∧ Fresh w.heap.size w' vc (Lib.uvarint 460) ∧ Below w.heap.size w w' := by
  go_enter Tryz.func70, Tryz.ntmps70
  go_wp2_with (go_at_call 128; refine (proto460 _).mono ?_; rintro e w2 ⟨v, rfl, ⟨g, hg1, hg2, rfl, hg4⟩, hb⟩; obtain ⟨hc, hf⟩ := bcell hb; have hz : w.heap.size < w2.heap.size := (by have := hb.size; simp at this; omega))
  refine bodyPost_ret (v := .agg #[.string ⟨#[113, 117, 105, 99]⟩, .int .i64 460, .slice (some ⟨g, 0, none⟩) (Lib.uvarint 460).length (Lib.uvarint 460).length, .int .i64 0, .bool false, .nilIface]) (by simp [results, Tryz.results70, go_sem, hc]) rfl ⟨_, rfl, ?_, ?_⟩
  · have hF : Fresh (w.heap.size + 1) w2 (.slice (some ⟨g, 0, none⟩) (Lib.uvarint 460).length (Lib.uvarint 460).length) (Lib.uvarint 460) := ⟨g, by simpa using hg1, hg2, rfl, hg4⟩
    exact hF.set6 _ _ _ _ _ _
  · exact below_set6 (below_under hb) _ _ _ _ _ _

set_option maxHeartbeats 800000 in
theorem zzCoded480 (w : World) : Calls Tryz.prog 70 #[.int .i64 480] w fun e w' => ∃ vc, e = .returned (.agg #[.string ⟨#[104, 116, 116, 112]⟩, .int .i64 480, vc, .int .i64 0, .bool false, .nilIface]) ∧ Fresh w.heap.size w' vc (Lib.uvarint 480) ∧ Below w.heap.size w w' := by
  go_enter Tryz.func70, Tryz.ntmps70
  go_wp2_with (go_at_call 132; refine (proto480 _).mono ?_; rintro e w2 ⟨v, rfl, ⟨g, hg1, hg2, rfl, hg4⟩, hb⟩; obtain ⟨hc, hf⟩ := bcell hb; have hz : w.heap.size < w2.heap.size := (by have := hb.size; simp at this; omega))
  refine bodyPost_ret (v := .agg #[.string ⟨#[104, 116, 116, 112]⟩, .int .i64 480, .slice (some ⟨g, 0, none⟩) (Lib.uvarint 480).length (Lib.uvarint 480).length, .int .i64 0, .bool false, .nilIface]) (by simp [results, Tryz.results70, go_sem, hc]) rfl ⟨_, rfl, ?_, ?_⟩
  · have hF : Fresh (w.heap.size + 1) w2 (.slice (some ⟨g, 0, none⟩) (Lib.uvarint 480).length (Lib.uvarint 480).length) (Lib.uvarint 480) := ⟨g, by simpa using hg1, hg2, rfl, hg4⟩
    exact hF.set6 _ _ _ _ _ _
  · exact below_set6 (below_under hb) _ _ _ _ _ _

set_option maxHeartbeats 800000 in
theorem zzCoded400 (w : World) : Calls Tryz.prog 70 #[.int .i64 400] w fun e w' => ∃ vc, e = .returned (.agg #[.string ⟨#[117, 110, 105, 120]⟩, .int .i64 400, vc, .int .i64 (-1), .bool true, tcG 235 236 237]) ∧ Fresh w.heap.size w' vc (Lib.uvarint 400) ∧ Below w.heap.size w w' := by
  go_enter Tryz.func70, Tryz.ntmps70
  go_wp2_with (go_at_call 136; refine (proto400 _).mono ?_; rintro e w2 ⟨v, rfl, ⟨g, hg1, hg2, rfl, hg4⟩, hb⟩; obtain ⟨hc, hf⟩ := bcell hb; have hz : w.heap.size < w2.heap.size := (by have := hb.size; simp at this; omega))
  refine bodyPost_ret (v := .agg #[.string ⟨#[117, 110, 105, 120]⟩, .int .i64 400, .slice (some ⟨g, 0, none⟩) (Lib.uvarint 400).length (Lib.uvarint 400).length, .int .i64 (-1), .bool true, tcG 235 236 237]) (by simp [results, Tryz.results70, go_sem, hc]) rfl ⟨_, rfl, ?_, ?_⟩
  · have hF : Fresh (w.heap.size + 1) w2 (.slice (some ⟨g, 0, none⟩) (Lib.uvarint 400).length (Lib.uvarint 400).length) (Lib.uvarint 400) := ⟨g, by simpa using hg1, hg2, rfl, hg4⟩
    exact hF.set6 _ _ _ _ _ _
  · exact below_set6 (below_under hb) _ _ _ _ _ _

set_option maxHeartbeats 800000 in
theorem zzCoded454 (w : World) : Calls Tryz.prog 70 #[.int .i64 454] w fun e w' => ∃ vc, e = .returned (.agg #[.string ⟨#[110, 111, 105, 115, 101]⟩, .int .i64 454, vc, .int .i64 0, .bool false, .nilIface]) ∧ Fresh w.heap.size w' vc (Lib.uvarint 454) ∧ Below w.heap.size w w' := by
  go_enter Tryz.func70, Tryz.ntmps70
  go_wp2_with (go_at_call 140; refine (proto454 _).mono ?_; rintro e w2 ⟨v, rfl, ⟨g, hg1, hg2, rfl, hg4⟩, hb⟩; obtain ⟨hc, hf⟩ := bcell hb; have hz : w.heap.size < w2.heap.size := (by have := hb.size; simp at this; omega))
  refine bodyPost_ret (v := .agg #[.string ⟨#[110, 111, 105, 115, 101]⟩, .int .i64 454, .slice (some ⟨g, 0, none⟩) (Lib.uvarint 454).length (Lib.uvarint 454).length, .int .i64 0, .bool false, .nilIface]) (by simp [results, Tryz.results70, go_sem, hc]) rfl ⟨_, rfl, ?_, ?_⟩
  · have hF : Fresh (w.heap.size + 1) w2 (.slice (some ⟨g, 0, none⟩) (Lib.uvarint 454).length (Lib.uvarint 454).length) (Lib.uvarint 454) := ⟨g, by simpa using hg1, hg2, rfl, hg4⟩
    exact hF.set6 _ _ _ _ _ _
  · exact below_set6 (below_under hb) _ _ _ _ _ _

set_option maxHeartbeats 800000 in
theorem zzCoded280 (w : World) : Calls Tryz.prog 70 #[.int .i64 280] w fun e w' => ∃ vc, e = .returned (.agg #[.string ⟨#[119, 101, 98, 114, 116, 99, 45, 100, 105, 114, 101, 99, 116]⟩, .int .i64 280, vc, .int .i64 0, .bool false, .nilIface]) ∧ Fresh w.heap.size w' vc (Lib.uvarint 280) ∧ Below w.heap.size w w' := by
  go_enter Tryz.func70, Tryz.ntmps70
  go_wp2_with (go_at_call 144; refine (proto280 _).mono ?_; rintro e w2 ⟨v, rfl, ⟨g, hg1, hg2, rfl, hg4⟩, hb⟩; obtain ⟨hc, hf⟩ := bcell hb; have hz : w.heap.size < w2.heap.size := (by have := hb.size; simp at this; omega))
  refine bodyPost_ret (v := .agg #[.string ⟨#[119, 101, 98, 114, 116, 99, 45, 100, 105, 114, 101, 99, 116]⟩, .int .i64 280, .slice (some ⟨g, 0, none⟩) (Lib.uvarint 280).length (Lib.uvarint 280).length, .int .i64 0, .bool false, .nilIface]) (by simp [results, Tryz.results70, go_sem, hc]) rfl ⟨_, rfl, ?_, ?_⟩
  · have hF : Fresh (w.heap.size + 1) w2 (.slice (some ⟨g, 0, none⟩) (Lib.uvarint 280).length (Lib.uvarint 280).length) (Lib.uvarint 280) := ⟨g, by simpa using hg1, hg2, rfl, hg4⟩
    exact hF.set6 _ _ _ _ _ _
  · exact below_set6 (below_under hb) _ _ _ _ _ _

end Go.Proofs.YtnpcmmjdojdmnaaGreatDoor
