/- zzNamed at the names of the table: part 0. zzNamed at the names of the table: part 1. -/
import Derived.Test.YtnpcmmjdojdmnaaGreatDoorQd
namespace Go.Proofs.YtnpcmmjdojdmnaaGreatDoor
open Go Go.RowKit

set_option maxRecDepth 100000 in
set_option maxHeartbeats 4000000 in
theorem zzNamed4 (w : World) : Calls Tryz.prog 165 #[.string ⟨#[105, 112, 52]⟩] w fun e w' => ∃ vc, e = .returned (.agg #[.string ⟨#[105, 112, 52]⟩, .int .i64 4, vc, .int .i64 32, .bool false, tcF 199 200]) ∧ Fresh w.heap.size w' vc (Lib.uvarint 4) ∧ Below w.heap.size w w' := by
  go_enter Tryz.func165, Tryz.ntmps165
  go_wp2_with (go_at_call 109; refine (proto4 _).mono ?_; rintro e w2 ⟨v, rfl, ⟨g, hg1, hg2, rfl, hg4⟩, hb⟩; obtain ⟨hc, hf⟩ := bcell hb; have hz : w.heap.size < w2.heap.size := (by have := hb.size; simp at this; omega))
  refine bodyPost_ret (v := .agg #[.string ⟨#[105, 112, 52]⟩, .int .i64 4, .slice (some ⟨g, 0, none⟩) (Lib.uvarint 4).length (Lib.uvarint 4).length, .int .i64 32, .bool false, tcF 199 200]) (by simp [results, Tryz.results165, go_sem, hc]) rfl ⟨_, rfl, ?_, ?_⟩
  · have hF : Fresh (w.heap.size + 1) w2 (.slice (some ⟨g, 0, none⟩) (Lib.uvarint 4).length (Lib.uvarint 4).length) (Lib.uvarint 4) := ⟨g, by simpa using hg1, hg2, rfl, hg4⟩
    exact hF.set6 _ _ _ _ _ _
  · exact below_set6 (below_under hb) _ _ _ _ _ _

set_option maxRecDepth 100000 in
set_option maxHeartbeats 4000000 in
theorem zzNamed55 (w : World) : Calls Tryz.prog 165 #[.string ⟨#[100, 110, 115, 54]⟩] w fun e w' => ∃ vc, e = .returned (.agg #[.string ⟨#[100, 110, 115, 54]⟩, .int .i64 55, vc, .int .i64 (-1), .bool false, tcG 203 204 205]) ∧ Fresh w.heap.size w' vc (Lib.uvarint 55) ∧ Below w.heap.size w w' := by
  go_enter Tryz.func165, Tryz.ntmps165
  go_wp2_with (go_at_call 113; refine (proto55 _).mono ?_; rintro e w2 ⟨v, rfl, ⟨g, hg1, hg2, rfl, hg4⟩, hb⟩; obtain ⟨hc, hf⟩ := bcell hb; have hz : w.heap.size < w2.heap.size := (by have := hb.size; simp at this; omega))
  refine bodyPost_ret (v := .agg #[.string ⟨#[100, 110, 115, 54]⟩, .int .i64 55, .slice (some ⟨g, 0, none⟩) (Lib.uvarint 55).length (Lib.uvarint 55).length, .int .i64 (-1), .bool false, tcG 203 204 205]) (by simp [results, Tryz.results165, go_sem, hc]) rfl ⟨_, rfl, ?_, ?_⟩
  · have hF : Fresh (w.heap.size + 1) w2 (.slice (some ⟨g, 0, none⟩) (Lib.uvarint 55).length (Lib.uvarint 55).length) (Lib.uvarint 55) := ⟨g, by simpa using hg1, hg2, rfl, hg4⟩
    exact hF.set6 _ _ _ _ _ _
  · exact below_set6 (below_under hb) _ _ _ _ _ _

set_option maxRecDepth 100000 in
set_option maxHeartbeats 4000000 in
theorem zzNamed41 (w : World) : Calls Tryz.prog 165 #[.string ⟨#[105, 112, 54]⟩] w fun e w' => ∃ vc, e = .returned (.agg #[.string ⟨#[105, 112, 54]⟩, .int .i64 41, vc, .int .i64 128, .bool false, tcF 206 207]) ∧ Fresh w.heap.size w' vc (Lib.uvarint 41) ∧ Below w.heap.size w w' := by
  go_enter Tryz.func165, Tryz.ntmps165
  go_wp2_with (go_at_call 117; refine (proto41 _).mono ?_; rintro e w2 ⟨v, rfl, ⟨g, hg1, hg2, rfl, hg4⟩, hb⟩; obtain ⟨hc, hf⟩ := bcell hb; have hz : w.heap.size < w2.heap.size := (by have := hb.size; simp at this; omega))
  refine bodyPost_ret (v := .agg #[.string ⟨#[105, 112, 54]⟩, .int .i64 41, .slice (some ⟨g, 0, none⟩) (Lib.uvarint 41).length (Lib.uvarint 41).length, .int .i64 128, .bool false, tcF 206 207]) (by simp [results, Tryz.results165, go_sem, hc]) rfl ⟨_, rfl, ?_, ?_⟩
  · have hF : Fresh (w.heap.size + 1) w2 (.slice (some ⟨g, 0, none⟩) (Lib.uvarint 41).length (Lib.uvarint 41).length) (Lib.uvarint 41) := ⟨g, by simpa using hg1, hg2, rfl, hg4⟩
    exact hF.set6 _ _ _ _ _ _
  · exact below_set6 (below_under hb) _ _ _ _ _ _

set_option maxRecDepth 100000 in
set_option maxHeartbeats 4000000 in
theorem zzNamed290 (w : World) : Calls Tryz.prog 165 #[.string ⟨#[112, 50, 112, 45, 99, 105, 114, 99, 117, 105, 116]⟩] w fun e w' => ∃ vc, e = .returned (.agg #[.string ⟨#[112, 50, 112, 45, 99, 105, 114, 99, 117, 105, 116]⟩, .int .i64 290, vc, .int .i64 0, .bool false, .nilIface]) ∧ Fresh w.heap.size w' vc (Lib.uvarint 290) ∧ Below w.heap.size w w' := by
  go_enter Tryz.func165, Tryz.ntmps165
  go_wp2_with (go_at_call 121; refine (proto290 _).mono ?_; rintro e w2 ⟨v, rfl, ⟨g, hg1, hg2, rfl, hg4⟩, hb⟩; obtain ⟨hc, hf⟩ := bcell hb; have hz : w.heap.size < w2.heap.size := (by have := hb.size; simp at this; omega))
  refine bodyPost_ret (v := .agg #[.string ⟨#[112, 50, 112, 45, 99, 105, 114, 99, 117, 105, 116]⟩, .int .i64 290, .slice (some ⟨g, 0, none⟩) (Lib.uvarint 290).length (Lib.uvarint 290).length, .int .i64 0, .bool false, .nilIface]) (by simp [results, Tryz.results165, go_sem, hc]) rfl ⟨_, rfl, ?_, ?_⟩
  · have hF : Fresh (w.heap.size + 1) w2 (.slice (some ⟨g, 0, none⟩) (Lib.uvarint 290).length (Lib.uvarint 290).length) (Lib.uvarint 290) := ⟨g, by simpa using hg1, hg2, rfl, hg4⟩
    exact hF.set6 _ _ _ _ _ _
  · exact below_set6 (below_under hb) _ _ _ _ _ _

set_option maxRecDepth 100000 in
set_option maxHeartbeats 4000000 in
theorem zzNamed447 (w : World) : Calls Tryz.prog 165 #[.string ⟨#[103, 97, 114, 108, 105, 99, 51, 50]⟩] w fun e w' => ∃ vc, e = .returned (.agg #[.string ⟨#[103, 97, 114, 108, 105, 99, 51, 50]⟩, .int .i64 447, vc, .int .i64 (-1), .bool false, tcG 223 224 225]) ∧ Fresh w.heap.size w' vc (Lib.uvarint 447) ∧ Below w.heap.size w w' := by
  go_enter Tryz.func165, Tryz.ntmps165
  go_wp2_with (go_at_call 125; refine (proto447 _).mono ?_; rintro e w2 ⟨v, rfl, ⟨g, hg1, hg2, rfl, hg4⟩, hb⟩; obtain ⟨hc, hf⟩ := bcell hb; have hz : w.heap.size < w2.heap.size := (by have := hb.size; simp at this; omega))
  refine bodyPost_ret (v := .agg #[.string ⟨#[103, 97, 114, 108, 105, 99, 51, 50]⟩, .int .i64 447, .slice (some ⟨g, 0, none⟩) (Lib.uvarint 447).length (Lib.uvarint 447).length, .int .i64 (-1), .bool false, tcG 223 224 225]) (by simp [results, Tryz.results165, go_sem, hc]) rfl ⟨_, rfl, ?_, ?_⟩
  · have hF : Fresh (w.heap.size + 1) w2 (.slice (some ⟨g, 0, none⟩) (Lib.uvarint 447).length (Lib.uvarint 447).length) (Lib.uvarint 447) := ⟨g, by simpa using hg1, hg2, rfl, hg4⟩
    exact hF.set6 _ _ _ _ _ _
  · exact below_set6 (below_under hb) _ _ _ _ _ _

set_option maxRecDepth 100000 in
set_option maxHeartbeats 4000000 in
theorem zzNamed461 (w : World) : Calls Tryz.prog 165 #[.string ⟨#[113, 117, 105, 99, 45, 118, 49]⟩] w fun e w' => ∃ vc, e = .returned (.agg #[.string ⟨#[113, 117, 105, 99, 45, 118, 49]⟩, .int .i64 461, vc, .int .i64 0, .bool false, .nilIface]) ∧ Fresh w.heap.size w' vc (Lib.uvarint 461) ∧ Below w.heap.size w w' := by
  go_enter Tryz.func165, Tryz.ntmps165
  go_wp2_with (go_at_call 129; refine (proto461 _).mono ?_; rintro e w2 ⟨v, rfl, ⟨g, hg1, hg2, rfl, hg4⟩, hb⟩; obtain ⟨hc, hf⟩ := bcell hb; have hz : w.heap.size < w2.heap.size := (by have := hb.size; simp at this; omega))
  refine bodyPost_ret (v := .agg #[.string ⟨#[113, 117, 105, 99, 45, 118, 49]⟩, .int .i64 461, .slice (some ⟨g, 0, none⟩) (Lib.uvarint 461).length (Lib.uvarint 461).length, .int .i64 0, .bool false, .nilIface]) (by simp [results, Tryz.results165, go_sem, hc]) rfl ⟨_, rfl, ?_, ?_⟩
  · have hF : Fresh (w.heap.size + 1) w2 (.slice (some ⟨g, 0, none⟩) (Lib.uvarint 461).length (Lib.uvarint 461).length) (Lib.uvarint 461) := ⟨g, by simpa using hg1, hg2, rfl, hg4⟩
    exact hF.set6 _ _ _ _ _ _
  · exact below_set6 (below_under hb) _ _ _ _ _ _

set_option maxRecDepth 100000 in
set_option maxHeartbeats 4000000 in
theorem zzNamed481 (w : World) : Calls Tryz.prog 165 #[.string ⟨#[104, 116, 116, 112, 45, 112, 97, 116, 104]⟩] w fun e w' => ∃ vc, e = .returned (.agg #[.string ⟨#[104, 116, 116, 112, 45, 112, 97, 116, 104]⟩, .int .i64 481, vc, .int .i64 (-1), .bool false, tcG 229 230 231]) ∧ Fresh w.heap.size w' vc (Lib.uvarint 481) ∧ Below w.heap.size w w' := by
  go_enter Tryz.func165, Tryz.ntmps165
  go_wp2_with (go_at_call 133; refine (proto481 _).mono ?_; rintro e w2 ⟨v, rfl, ⟨g, hg1, hg2, rfl, hg4⟩, hb⟩; obtain ⟨hc, hf⟩ := bcell hb; have hz : w.heap.size < w2.heap.size := (by have := hb.size; simp at this; omega))
  refine bodyPost_ret (v := .agg #[.string ⟨#[104, 116, 116, 112, 45, 112, 97, 116, 104]⟩, .int .i64 481, .slice (some ⟨g, 0, none⟩) (Lib.uvarint 481).length (Lib.uvarint 481).length, .int .i64 (-1), .bool false, tcG 229 230 231]) (by simp [results, Tryz.results165, go_sem, hc]) rfl ⟨_, rfl, ?_, ?_⟩
  · have hF : Fresh (w.heap.size + 1) w2 (.slice (some ⟨g, 0, none⟩) (Lib.uvarint 481).length (Lib.uvarint 481).length) (Lib.uvarint 481) := ⟨g, by simpa using hg1, hg2, rfl, hg4⟩
    exact hF.set6 _ _ _ _ _ _
  · exact below_set6 (below_under hb) _ _ _ _ _ _

set_option maxRecDepth 100000 in
set_option maxHeartbeats 4000000 in
theorem zzNamed276 (w : World) : Calls Tryz.prog 165 #[.string ⟨#[112, 50, 112, 45, 119, 101, 98, 114, 116, 99, 45, 100, 105, 114, 101, 99, 116]⟩] w fun e w' => ∃ vc, e = .returned (.agg #[.string ⟨#[112, 50, 112, 45, 119, 101, 98, 114, 116, 99, 45, 100, 105, 114, 101, 99, 116]⟩, .int .i64 276, vc, .int .i64 0, .bool false, .nilIface]) ∧ Fresh w.heap.size w' vc (Lib.uvarint 276) ∧ Below w.heap.size w w' := by
  go_enter Tryz.func165, Tryz.ntmps165
  go_wp2_with (go_at_call 137; refine (proto276 _).mono ?_; rintro e w2 ⟨v, rfl, ⟨g, hg1, hg2, rfl, hg4⟩, hb⟩; obtain ⟨hc, hf⟩ := bcell hb; have hz : w.heap.size < w2.heap.size := (by have := hb.size; simp at this; omega))
  refine bodyPost_ret (v := .agg #[.string ⟨#[112, 50, 112, 45, 119, 101, 98, 114, 116, 99, 45, 100, 105, 114, 101, 99, 116]⟩, .int .i64 276, .slice (some ⟨g, 0, none⟩) (Lib.uvarint 276).length (Lib.uvarint 276).length, .int .i64 0, .bool false, .nilIface]) (by simp [results, Tryz.results165, go_sem, hc]) rfl ⟨_, rfl, ?_, ?_⟩
  · have hF : Fresh (w.heap.size + 1) w2 (.slice (some ⟨g, 0, none⟩) (Lib.uvarint 276).length (Lib.uvarint 276).length) (Lib.uvarint 276) := ⟨g, by simpa using hg1, hg2, rfl, hg4⟩
    exact hF.set6 _ _ _ _ _ _
  · exact below_set6 (below_under hb) _ _ _ _ _ _

set_option maxRecDepth 100000 in
set_option maxHeartbeats 4000000 in
theorem zzNamed477 (w : World) : Calls Tryz.prog 165 #[.string ⟨#[119, 115]⟩] w fun e w' => ∃ vc, e = .returned (.agg #[.string ⟨#[119, 115]⟩, .int .i64 477, vc, .int .i64 0, .bool false, .nilIface]) ∧ Fresh w.heap.size w' vc (Lib.uvarint 477) ∧ Below w.heap.size w w' := by
  go_enter Tryz.func165, Tryz.ntmps165
  go_wp2_with (go_at_call 141; refine (proto477 _).mono ?_; rintro e w2 ⟨v, rfl, ⟨g, hg1, hg2, rfl, hg4⟩, hb⟩; obtain ⟨hc, hf⟩ := bcell hb; have hz : w.heap.size < w2.heap.size := (by have := hb.size; simp at this; omega))
  refine bodyPost_ret (v := .agg #[.string ⟨#[119, 115]⟩, .int .i64 477, .slice (some ⟨g, 0, none⟩) (Lib.uvarint 477).length (Lib.uvarint 477).length, .int .i64 0, .bool false, .nilIface]) (by simp [results, Tryz.results165, go_sem, hc]) rfl ⟨_, rfl, ?_, ?_⟩
  · have hF : Fresh (w.heap.size + 1) w2 (.slice (some ⟨g, 0, none⟩) (Lib.uvarint 477).length (Lib.uvarint 477).length) (Lib.uvarint 477) := ⟨g, by simpa using hg1, hg2, rfl, hg4⟩
    exact hF.set6 _ _ _ _ _ _
  · exact below_set6 (below_under hb) _ _ _ _ _ _

set_option maxRecDepth 100000 in
set_option maxHeartbeats 4000000 in
theorem zzNamed281 (w : World) : Calls Tryz.prog 165 #[.string ⟨#[119, 101, 98, 114, 116, 99]⟩] w fun e w' => ∃ vc, e = .returned (.agg #[.string ⟨#[119, 101, 98, 114, 116, 99]⟩, .int .i64 281, vc, .int .i64 0, .bool false, .nilIface]) ∧ Fresh w.heap.size w' vc (Lib.uvarint 281) ∧ Below w.heap.size w w' := by
  go_enter Tryz.func165, Tryz.ntmps165
  go_wp2_with (go_at_call 145; refine (proto281 _).mono ?_; rintro e w2 ⟨v, rfl, ⟨g, hg1, hg2, rfl, hg4⟩, hb⟩; obtain ⟨hc, hf⟩ := bcell hb; have hz : w.heap.size < w2.heap.size := (by have := hb.size; simp at this; omega))
  refine bodyPost_ret (v := .agg #[.string ⟨#[119, 101, 98, 114, 116, 99]⟩, .int .i64 281, .slice (some ⟨g, 0, none⟩) (Lib.uvarint 281).length (Lib.uvarint 281).length, .int .i64 0, .bool false, .nilIface]) (by simp [results, Tryz.results165, go_sem, hc]) rfl ⟨_, rfl, ?_, ?_⟩
  · have hF : Fresh (w.heap.size + 1) w2 (.slice (some ⟨g, 0, none⟩) (Lib.uvarint 281).length (Lib.uvarint 281).length) (Lib.uvarint 281) := ⟨g, by simpa using hg1, hg2, rfl, hg4⟩
    exact hF.set6 _ _ _ _ _ _
  · exact below_set6 (below_under hb) _ _ _ _ _ _

end Go.Proofs.YtnpcmmjdojdmnaaGreatDoor
namespace Go.Proofs.YtnpcmmjdojdmnaaGreatDoor
open Go Go.RowKit

set_option maxRecDepth 100000 in
set_option maxHeartbeats 4000000 in
theorem zzNamed6 (w : World) : Calls Tryz.prog 165 #[.string ⟨#[116, 99, 112]⟩] w fun e w' => ∃ vc, e = .returned (.agg #[.string ⟨#[116, 99, 112]⟩, .int .i64 6, vc, .int .i64 16, .bool false, tcF 201 202]) ∧ Fresh w.heap.size w' vc (Lib.uvarint 6) ∧ Below w.heap.size w w' := by
  go_enter Tryz.func165, Tryz.ntmps165
  go_wp2_with (go_at_call 110; refine (proto6 _).mono ?_; rintro e w2 ⟨v, rfl, ⟨g, hg1, hg2, rfl, hg4⟩, hb⟩; obtain ⟨hc, hf⟩ := bcell hb; have hz : w.heap.size < w2.heap.size := (by have := hb.size; simp at this; omega))
  refine bodyPost_ret (v := .agg #[.string ⟨#[116, 99, 112]⟩, .int .i64 6, .slice (some ⟨g, 0, none⟩) (Lib.uvarint 6).length (Lib.uvarint 6).length, .int .i64 16, .bool false, tcF 201 202]) (by simp [results, Tryz.results165, go_sem, hc]) rfl ⟨_, rfl, ?_, ?_⟩
  · have hF : Fresh (w.heap.size + 1) w2 (.slice (some ⟨g, 0, none⟩) (Lib.uvarint 6).length (Lib.uvarint 6).length) (Lib.uvarint 6) := ⟨g, by simpa using hg1, hg2, rfl, hg4⟩
    exact hF.set6 _ _ _ _ _ _
  · exact below_set6 (below_under hb) _ _ _ _ _ _

set_option maxRecDepth 100000 in
set_option maxHeartbeats 4000000 in
theorem zzNamed56 (w : World) : Calls Tryz.prog 165 #[.string ⟨#[100, 110, 115, 97, 100, 100, 114]⟩] w fun e w' => ∃ vc, e = .returned (.agg #[.string ⟨#[100, 110, 115, 97, 100, 100, 114]⟩, .int .i64 56, vc, .int .i64 (-1), .bool false, tcG 203 204 205]) ∧ Fresh w.heap.size w' vc (Lib.uvarint 56) ∧ Below w.heap.size w w' := by
  go_enter Tryz.func165, Tryz.ntmps165
  go_wp2_with (go_at_call 114; refine (proto56 _).mono ?_; rintro e w2 ⟨v, rfl, ⟨g, hg1, hg2, rfl, hg4⟩, hb⟩; obtain ⟨hc, hf⟩ := bcell hb; have hz : w.heap.size < w2.heap.size := (by have := hb.size; simp at this; omega))
  refine bodyPost_ret (v := .agg #[.string ⟨#[100, 110, 115, 97, 100, 100, 114]⟩, .int .i64 56, .slice (some ⟨g, 0, none⟩) (Lib.uvarint 56).length (Lib.uvarint 56).length, .int .i64 (-1), .bool false, tcG 203 204 205]) (by simp [results, Tryz.results165, go_sem, hc]) rfl ⟨_, rfl, ?_, ?_⟩
  · have hF : Fresh (w.heap.size + 1) w2 (.slice (some ⟨g, 0, none⟩) (Lib.uvarint 56).length (Lib.uvarint 56).length) (Lib.uvarint 56) := ⟨g, by simpa using hg1, hg2, rfl, hg4⟩
    exact hF.set6 _ _ _ _ _ _
  · exact below_set6 (below_under hb) _ _ _ _ _ _

set_option maxRecDepth 100000 in
set_option maxHeartbeats 4000000 in
theorem zzNamed42 (w : World) : Calls Tryz.prog 165 #[.string ⟨#[105, 112, 54, 122, 111, 110, 101]⟩] w fun e w' => ∃ vc, e = .returned (.agg #[.string ⟨#[105, 112, 54, 122, 111, 110, 101]⟩, .int .i64 42, vc, .int .i64 (-1), .bool false, tcG 208 209 210]) ∧ Fresh w.heap.size w' vc (Lib.uvarint 42) ∧ Below w.heap.size w w' := by
  go_enter Tryz.func165, Tryz.ntmps165
  go_wp2_with (go_at_call 118; refine (proto42 _).mono ?_; rintro e w2 ⟨v, rfl, ⟨g, hg1, hg2, rfl, hg4⟩, hb⟩; obtain ⟨hc, hf⟩ := bcell hb; have hz : w.heap.size < w2.heap.size := (by have := hb.size; simp at this; omega))
  refine bodyPost_ret (v := .agg #[.string ⟨#[105, 112, 54, 122, 111, 110, 101]⟩, .int .i64 42, .slice (some ⟨g, 0, none⟩) (Lib.uvarint 42).length (Lib.uvarint 42).length, .int .i64 (-1), .bool false, tcG 208 209 210]) (by simp [results, Tryz.results165, go_sem, hc]) rfl ⟨_, rfl, ?_, ?_⟩
  · have hF : Fresh (w.heap.size + 1) w2 (.slice (some ⟨g, 0, none⟩) (Lib.uvarint 42).length (Lib.uvarint 42).length) (Lib.uvarint 42) := ⟨g, by simpa using hg1, hg2, rfl, hg4⟩
    exact hF.set6 _ _ _ _ _ _
  · exact below_set6 (below_under hb) _ _ _ _ _ _

set_option maxRecDepth 100000 in
set_option maxHeartbeats 4000000 in
theorem zzNamed444 (w : World) : Calls Tryz.prog 165 #[.string ⟨#[111, 110, 105, 111, 110]⟩] w fun e w' => ∃ vc, e = .returned (.agg #[.string ⟨#[111, 110, 105, 111, 110]⟩, .int .i64 444, vc, .int .i64 96, .bool false, tcG 214 215 216]) ∧ Fresh w.heap.size w' vc (Lib.uvarint 444) ∧ Below w.heap.size w w' := by
  go_enter Tryz.func165, Tryz.ntmps165
  go_wp2_with (go_at_call 122; refine (proto444 _).mono ?_; rintro e w2 ⟨v, rfl, ⟨g, hg1, hg2, rfl, hg4⟩, hb⟩; obtain ⟨hc, hf⟩ := bcell hb; have hz : w.heap.size < w2.heap.size := (by have := hb.size; simp at this; omega))
  refine bodyPost_ret (v := .agg #[.string ⟨#[111, 110, 105, 111, 110]⟩, .int .i64 444, .slice (some ⟨g, 0, none⟩) (Lib.uvarint 444).length (Lib.uvarint 444).length, .int .i64 96, .bool false, tcG 214 215 216]) (by simp [results, Tryz.results165, go_sem, hc]) rfl ⟨_, rfl, ?_, ?_⟩
  · have hF : Fresh (w.heap.size + 1) w2 (.slice (some ⟨g, 0, none⟩) (Lib.uvarint 444).length (Lib.uvarint 444).length) (Lib.uvarint 444) := ⟨g, by simpa using hg1, hg2, rfl, hg4⟩
    exact hF.set6 _ _ _ _ _ _
  · exact below_set6 (below_under hb) _ _ _ _ _ _

set_option maxRecDepth 100000 in
set_option maxHeartbeats 4000000 in
theorem zzNamed302 (w : World) : Calls Tryz.prog 165 #[.string ⟨#[117, 116, 112]⟩] w fun e w' => ∃ vc, e = .returned (.agg #[.string ⟨#[117, 116, 112]⟩, .int .i64 302, vc, .int .i64 0, .bool false, .nilIface]) ∧ Fresh w.heap.size w' vc (Lib.uvarint 302) ∧ Below w.heap.size w w' := by
  go_enter Tryz.func165, Tryz.ntmps165
  go_wp2_with (go_at_call 126; refine (proto302 _).mono ?_; rintro e w2 ⟨v, rfl, ⟨g, hg1, hg2, rfl, hg4⟩, hb⟩; obtain ⟨hc, hf⟩ := bcell hb; have hz : w.heap.size < w2.heap.size := (by have := hb.size; simp at this; omega))
  refine bodyPost_ret (v := .agg #[.string ⟨#[117, 116, 112]⟩, .int .i64 302, .slice (some ⟨g, 0, none⟩) (Lib.uvarint 302).length (Lib.uvarint 302).length, .int .i64 0, .bool false, .nilIface]) (by simp [results, Tryz.results165, go_sem, hc]) rfl ⟨_, rfl, ?_, ?_⟩
  · have hF : Fresh (w.heap.size + 1) w2 (.slice (some ⟨g, 0, none⟩) (Lib.uvarint 302).length (Lib.uvarint 302).length) (Lib.uvarint 302) := ⟨g, by simpa using hg1, hg2, rfl, hg4⟩
    exact hF.set6 _ _ _ _ _ _
  · exact below_set6 (below_under hb) _ _ _ _ _ _

set_option maxRecDepth 100000 in
set_option maxHeartbeats 4000000 in
theorem zzNamed465 (w : World) : Calls Tryz.prog 165 #[.string ⟨#[119, 101, 98, 116, 114, 97, 110, 115, 112, 111, 114, 116]⟩] w fun e w' => ∃ vc, e = .returned (.agg #[.string ⟨#[119, 101, 98, 116, 114, 97, 110, 115, 112, 111, 114, 116]⟩, .int .i64 465, vc, .int .i64 0, .bool false, .nilIface]) ∧ Fresh w.heap.size w' vc (Lib.uvarint 465) ∧ Below w.heap.size w w' := by
  go_enter Tryz.func165, Tryz.ntmps165
  go_wp2_with (go_at_call 130; refine (proto465 _).mono ?_; rintro e w2 ⟨v, rfl, ⟨g, hg1, hg2, rfl, hg4⟩, hb⟩; obtain ⟨hc, hf⟩ := bcell hb; have hz : w.heap.size < w2.heap.size := (by have := hb.size; simp at this; omega))
  refine bodyPost_ret (v := .agg #[.string ⟨#[119, 101, 98, 116, 114, 97, 110, 115, 112, 111, 114, 116]⟩, .int .i64 465, .slice (some ⟨g, 0, none⟩) (Lib.uvarint 465).length (Lib.uvarint 465).length, .int .i64 0, .bool false, .nilIface]) (by simp [results, Tryz.results165, go_sem, hc]) rfl ⟨_, rfl, ?_, ?_⟩
  · have hF : Fresh (w.heap.size + 1) w2 (.slice (some ⟨g, 0, none⟩) (Lib.uvarint 465).length (Lib.uvarint 465).length) (Lib.uvarint 465) := ⟨g, by simpa using hg1, hg2, rfl, hg4⟩
    exact hF.set6 _ _ _ _ _ _
  · exact below_set6 (below_under hb) _ _ _ _ _ _

set_option maxRecDepth 100000 in
set_option maxHeartbeats 4000000 in
theorem zzNamed443 (w : World) : Calls Tryz.prog 165 #[.string ⟨#[104, 116, 116, 112, 115]⟩] w fun e w' => ∃ vc, e = .returned (.agg #[.string ⟨#[104, 116, 116, 112, 115]⟩, .int .i64 443, vc, .int .i64 0, .bool false, .nilIface]) ∧ Fresh w.heap.size w' vc (Lib.uvarint 443) ∧ Below w.heap.size w w' := by
  go_enter Tryz.func165, Tryz.ntmps165
  go_wp2_with (go_at_call 134; refine (proto443 _).mono ?_; rintro e w2 ⟨v, rfl, ⟨g, hg1, hg2, rfl, hg4⟩, hb⟩; obtain ⟨hc, hf⟩ := bcell hb; have hz : w.heap.size < w2.heap.size := (by have := hb.size; simp at this; omega))
  refine bodyPost_ret (v := .agg #[.string ⟨#[104, 116, 116, 112, 115]⟩, .int .i64 443, .slice (some ⟨g, 0, none⟩) (Lib.uvarint 443).length (Lib.uvarint 443).length, .int .i64 0, .bool false, .nilIface]) (by simp [results, Tryz.results165, go_sem, hc]) rfl ⟨_, rfl, ?_, ?_⟩
  · have hF : Fresh (w.heap.size + 1) w2 (.slice (some ⟨g, 0, none⟩) (Lib.uvarint 443).length (Lib.uvarint 443).length) (Lib.uvarint 443) := ⟨g, by simpa using hg1, hg2, rfl, hg4⟩
    exact hF.set6 _ _ _ _ _ _
  · exact below_set6 (below_under hb) _ _ _ _ _ _

set_option maxRecDepth 100000 in
set_option maxHeartbeats 4000000 in
theorem zzNamed448 (w : World) : Calls Tryz.prog 165 #[.string ⟨#[116, 108, 115]⟩] w fun e w' => ∃ vc, e = .returned (.agg #[.string ⟨#[116, 108, 115]⟩, .int .i64 448, vc, .int .i64 0, .bool false, .nilIface]) ∧ Fresh w.heap.size w' vc (Lib.uvarint 448) ∧ Below w.heap.size w w' := by
  go_enter Tryz.func165, Tryz.ntmps165
  go_wp2_with (go_at_call 138; refine (proto448 _).mono ?_; rintro e w2 ⟨v, rfl, ⟨g, hg1, hg2, rfl, hg4⟩, hb⟩; obtain ⟨hc, hf⟩ := bcell hb; have hz : w.heap.size < w2.heap.size := (by have := hb.size; simp at this; omega))
  refine bodyPost_ret (v := .agg #[.string ⟨#[116, 108, 115]⟩, .int .i64 448, .slice (some ⟨g, 0, none⟩) (Lib.uvarint 448).length (Lib.uvarint 448).length, .int .i64 0, .bool false, .nilIface]) (by simp [results, Tryz.results165, go_sem, hc]) rfl ⟨_, rfl, ?_, ?_⟩
  · have hF : Fresh (w.heap.size + 1) w2 (.slice (some ⟨g, 0, none⟩) (Lib.uvarint 448).length (Lib.uvarint 448).length) (Lib.uvarint 448) := ⟨g, by simpa using hg1, hg2, rfl, hg4⟩
    exact hF.set6 _ _ _ _ _ _
  · exact below_set6 (below_under hb) _ _ _ _ _ _

set_option maxRecDepth 100000 in
set_option maxHeartbeats 4000000 in
theorem zzNamed478 (w : World) : Calls Tryz.prog 165 #[.string ⟨#[119, 115, 115]⟩] w fun e w' => ∃ vc, e = .returned (.agg #[.string ⟨#[119, 115, 115]⟩, .int .i64 478, vc, .int .i64 0, .bool false, .nilIface]) ∧ Fresh w.heap.size w' vc (Lib.uvarint 478) ∧ Below w.heap.size w w' := by
  go_enter Tryz.func165, Tryz.ntmps165
  go_wp2_with (go_at_call 142; refine (proto478 _).mono ?_; rintro e w2 ⟨v, rfl, ⟨g, hg1, hg2, rfl, hg4⟩, hb⟩; obtain ⟨hc, hf⟩ := bcell hb; have hz : w.heap.size < w2.heap.size := (by have := hb.size; simp at this; omega))
  refine bodyPost_ret (v := .agg #[.string ⟨#[119, 115, 115]⟩, .int .i64 478, .slice (some ⟨g, 0, none⟩) (Lib.uvarint 478).length (Lib.uvarint 478).length, .int .i64 0, .bool false, .nilIface]) (by simp [results, Tryz.results165, go_sem, hc]) rfl ⟨_, rfl, ?_, ?_⟩
  · have hF : Fresh (w.heap.size + 1) w2 (.slice (some ⟨g, 0, none⟩) (Lib.uvarint 478).length (Lib.uvarint 478).length) (Lib.uvarint 478) := ⟨g, by simpa using hg1, hg2, rfl, hg4⟩
    exact hF.set6 _ _ _ _ _ _
  · exact below_set6 (below_under hb) _ _ _ _ _ _

set_option maxRecDepth 100000 in
set_option maxHeartbeats 4000000 in
theorem zzNamed777 (w : World) : Calls Tryz.prog 165 #[.string ⟨#[109, 101, 109, 111, 114, 121]⟩] w fun e w' => ∃ vc, e = .returned (.agg #[.string ⟨#[109, 101, 109, 111, 114, 121]⟩, .int .i64 777, vc, .int .i64 64, .bool false, tcG 238 239 240]) ∧ Fresh w.heap.size w' vc (Lib.uvarint 777) ∧ Below w.heap.size w w' := by
  go_enter Tryz.func165, Tryz.ntmps165
  go_wp2_with (go_at_call 146; refine (proto777 _).mono ?_; rintro e w2 ⟨v, rfl, ⟨g, hg1, hg2, rfl, hg4⟩, hb⟩; obtain ⟨hc, hf⟩ := bcell hb; have hz : w.heap.size < w2.heap.size := (by have := hb.size; simp at this; omega))
  refine bodyPost_ret (v := .agg #[.string ⟨#[109, 101, 109, 111, 114, 121]⟩, .int .i64 777, .slice (some ⟨g, 0, none⟩) (Lib.uvarint 777).length (Lib.uvarint 777).length, .int .i64 64, .bool false, tcG 238 239 240]) (by simp [results, Tryz.results165, go_sem, hc]) rfl ⟨_, rfl, ?_, ?_⟩
  · have hF : Fresh (w.heap.size + 1) w2 (.slice (some ⟨g, 0, none⟩) (Lib.uvarint 777).length (Lib.uvarint 777).length) (Lib.uvarint 777) := ⟨g, by simpa using hg1, hg2, rfl, hg4⟩
    exact hF.set6 _ _ _ _ _ _
  · exact below_set6 (below_under hb) _ _ _ _ _ _

end Go.Proofs.YtnpcmmjdojdmnaaGreatDoor
