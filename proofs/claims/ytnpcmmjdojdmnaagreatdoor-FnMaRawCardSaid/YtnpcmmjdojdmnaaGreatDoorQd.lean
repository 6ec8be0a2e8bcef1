/- Protocols of the table, as the program makes them: part 0. Protocols of the table, as the program makes them: part 1. -/
import Derived.Test.YtnpcmmjdojdmnaaGreatDoorQc
namespace Go.Proofs.YtnpcmmjdojdmnaaGreatDoor
open Go Go.RowKit

theorem proto4 (w : World) : Calls Tryz.prog 109 #[] w fun e w' => ∃ vc, e = .returned (.agg #[.string ⟨#[105, 112, 52]⟩, .int .i64 4, vc, .int .i64 32, .bool false, tcF 199 200]) ∧ Fresh w.heap.size w' vc (Lib.uvarint 4) ∧ Below w.heap.size w w' := by
  have H171 : ∀ wx, Calls Tryz.prog 171 #[.int .i64 4] wx fun e w' => ∃ v, e = .returned v ∧ Fresh wx.heap.size w' v (Lib.uvarint 4) ∧ Below wx.heap.size wx w' := fun wx => codeToVarint 4 (by decide) wx
  go_enter Tryz.func109, Tryz.ntmps109
  go_wp2_with (first
    | (go_at_call 171; refine (H171 _).mono ?_; rintro e w2 ⟨v, rfl, ⟨g, hg1, hg2, rfl, hg4⟩, hb⟩; obtain ⟨hc, hf⟩ := bcell hb; have hz : w.heap.size < w2.heap.size := (by have := hb.size; simp at this; omega))
    | (go_at_call 172; refine (tc172 _).mono ?_; rintro e w3 ⟨rfl, rfl⟩))
  refine bodyPost_ret (v := .agg #[.string ⟨#[105, 112, 52]⟩, .int .i64 4, .slice (some ⟨g, 0, none⟩) (Lib.uvarint 4).length (Lib.uvarint 4).length, .int .i64 32, .bool false, tcF 199 200]) (by simp [results, Tryz.results109, go_sem, hc]) rfl ⟨_, rfl, ?_, ?_⟩
  · have hF : Fresh (w.heap.size + 1) w2 (.slice (some ⟨g, 0, none⟩) (Lib.uvarint 4).length (Lib.uvarint 4).length) (Lib.uvarint 4) := ⟨g, by simpa using hg1, hg2, rfl, hg4⟩
    exact hF.set6 _ _ _ _ _ _
  · exact below_set6 (below_under hb) _ _ _ _ _ _

theorem proto55 (w : World) : Calls Tryz.prog 113 #[] w fun e w' => ∃ vc, e = .returned (.agg #[.string ⟨#[100, 110, 115, 54]⟩, .int .i64 55, vc, .int .i64 (-1), .bool false, tcG 203 204 205]) ∧ Fresh w.heap.size w' vc (Lib.uvarint 55) ∧ Below w.heap.size w w' := by
  have H171 : ∀ wx, Calls Tryz.prog 171 #[.int .i64 55] wx fun e w' => ∃ v, e = .returned v ∧ Fresh wx.heap.size w' v (Lib.uvarint 55) ∧ Below wx.heap.size wx w' := fun wx => codeToVarint 55 (by decide) wx
  go_enter Tryz.func113, Tryz.ntmps113
  go_wp2_with (first
    | (go_at_call 171; refine (H171 _).mono ?_; rintro e w2 ⟨v, rfl, ⟨g, hg1, hg2, rfl, hg4⟩, hb⟩; obtain ⟨hc, hf⟩ := bcell hb; have hz : w.heap.size < w2.heap.size := (by have := hb.size; simp at this; omega))
    | (go_at_call 174; refine (tc174 _).mono ?_; rintro e w3 ⟨rfl, rfl⟩))
  refine bodyPost_ret (v := .agg #[.string ⟨#[100, 110, 115, 54]⟩, .int .i64 55, .slice (some ⟨g, 0, none⟩) (Lib.uvarint 55).length (Lib.uvarint 55).length, .int .i64 (-1), .bool false, tcG 203 204 205]) (by simp [results, Tryz.results113, go_sem, hc]) rfl ⟨_, rfl, ?_, ?_⟩
  · have hF : Fresh (w.heap.size + 1) w2 (.slice (some ⟨g, 0, none⟩) (Lib.uvarint 55).length (Lib.uvarint 55).length) (Lib.uvarint 55) := ⟨g, by simpa using hg1, hg2, rfl, hg4⟩
    exact hF.set6 _ _ _ _ _ _
  · exact below_set6 (below_under hb) _ _ _ _ _ _

theorem proto41 (w : World) : Calls Tryz.prog 117 #[] w fun e w' => ∃ vc, e = .returned (.agg #[.string ⟨#[105, 112, 54]⟩, .int .i64 41, vc, .int .i64 128, .bool false, tcF 206 207]) ∧ Fresh w.heap.size w' vc (Lib.uvarint 41) ∧ Below w.heap.size w w' := by
  have H171 : ∀ wx, Calls Tryz.prog 171 #[.int .i64 41] wx fun e w' => ∃ v, e = .returned v ∧ Fresh wx.heap.size w' v (Lib.uvarint 41) ∧ Below wx.heap.size wx w' := fun wx => codeToVarint 41 (by decide) wx
  go_enter Tryz.func117, Tryz.ntmps117
  go_wp2_with (first
    | (go_at_call 171; refine (H171 _).mono ?_; rintro e w2 ⟨v, rfl, ⟨g, hg1, hg2, rfl, hg4⟩, hb⟩; obtain ⟨hc, hf⟩ := bcell hb; have hz : w.heap.size < w2.heap.size := (by have := hb.size; simp at this; omega))
    | (go_at_call 175; refine (tc175 _).mono ?_; rintro e w3 ⟨rfl, rfl⟩))
  refine bodyPost_ret (v := .agg #[.string ⟨#[105, 112, 54]⟩, .int .i64 41, .slice (some ⟨g, 0, none⟩) (Lib.uvarint 41).length (Lib.uvarint 41).length, .int .i64 128, .bool false, tcF 206 207]) (by simp [results, Tryz.results117, go_sem, hc]) rfl ⟨_, rfl, ?_, ?_⟩
  · have hF : Fresh (w.heap.size + 1) w2 (.slice (some ⟨g, 0, none⟩) (Lib.uvarint 41).length (Lib.uvarint 41).length) (Lib.uvarint 41) := ⟨g, by simpa using hg1, hg2, rfl, hg4⟩
    exact hF.set6 _ _ _ _ _ _
  · exact below_set6 (below_under hb) _ _ _ _ _ _

theorem proto290 (w : World) : Calls Tryz.prog 121 #[] w fun e w' => ∃ vc, e = .returned (.agg #[.string ⟨#[112, 50, 112, 45, 99, 105, 114, 99, 117, 105, 116]⟩, .int .i64 290, vc, .int .i64 0, .bool false, .nilIface]) ∧ Fresh w.heap.size w' vc (Lib.uvarint 290) ∧ Below w.heap.size w w' := by
  have H171 : ∀ wx, Calls Tryz.prog 171 #[.int .i64 290] wx fun e w' => ∃ v, e = .returned v ∧ Fresh wx.heap.size w' v (Lib.uvarint 290) ∧ Below wx.heap.size wx w' := fun wx => codeToVarint 290 (by decide) wx
  go_enter Tryz.func121, Tryz.ntmps121
  go_wp2_with (first
    | (go_at_call 171; refine (H171 _).mono ?_; rintro e w2 ⟨v, rfl, ⟨g, hg1, hg2, rfl, hg4⟩, hb⟩; obtain ⟨hc, hf⟩ := bcell hb; have hz : w.heap.size < w2.heap.size := (by have := hb.size; simp at this; omega)))
  refine bodyPost_ret (v := .agg #[.string ⟨#[112, 50, 112, 45, 99, 105, 114, 99, 117, 105, 116]⟩, .int .i64 290, .slice (some ⟨g, 0, none⟩) (Lib.uvarint 290).length (Lib.uvarint 290).length, .int .i64 0, .bool false, .nilIface]) (by simp [results, Tryz.results121, go_sem, hc]) rfl ⟨_, rfl, ?_, ?_⟩
  · have hF : Fresh (w.heap.size + 1) w2 (.slice (some ⟨g, 0, none⟩) (Lib.uvarint 290).length (Lib.uvarint 290).length) (Lib.uvarint 290) := ⟨g, by simpa using hg1, hg2, rfl, hg4⟩
    exact hF.set6 _ _ _ _ _ _
  · exact below_set6 (below_under hb) _ _ _ _ _ _

theorem proto447 (w : World) : Calls Tryz.prog 125 #[] w fun e w' => ∃ vc, e = .returned (.agg #[.string ⟨#[103, 97, 114, 108, 105, 99, 51, 50]⟩, .int .i64 447, vc, .int .i64 (-1), .bool false, tcG 223 224 225]) ∧ Fresh w.heap.size w' vc (Lib.uvarint 447) ∧ Below w.heap.size w w' := by
  have H171 : ∀ wx, Calls Tryz.prog 171 #[.int .i64 447] wx fun e w' => ∃ v, e = .returned v ∧ Fresh wx.heap.size w' v (Lib.uvarint 447) ∧ Below wx.heap.size wx w' := fun wx => codeToVarint 447 (by decide) wx
  go_enter Tryz.func125, Tryz.ntmps125
  go_wp2_with (first
    | (go_at_call 171; refine (H171 _).mono ?_; rintro e w2 ⟨v, rfl, ⟨g, hg1, hg2, rfl, hg4⟩, hb⟩; obtain ⟨hc, hf⟩ := bcell hb; have hz : w.heap.size < w2.heap.size := (by have := hb.size; simp at this; omega))
    | (go_at_call 181; refine (tc181 _).mono ?_; rintro e w3 ⟨rfl, rfl⟩))
  refine bodyPost_ret (v := .agg #[.string ⟨#[103, 97, 114, 108, 105, 99, 51, 50]⟩, .int .i64 447, .slice (some ⟨g, 0, none⟩) (Lib.uvarint 447).length (Lib.uvarint 447).length, .int .i64 (-1), .bool false, tcG 223 224 225]) (by simp [results, Tryz.results125, go_sem, hc]) rfl ⟨_, rfl, ?_, ?_⟩
  · have hF : Fresh (w.heap.size + 1) w2 (.slice (some ⟨g, 0, none⟩) (Lib.uvarint 447).length (Lib.uvarint 447).length) (Lib.uvarint 447) := ⟨g, by simpa using hg1, hg2, rfl, hg4⟩
    exact hF.set6 _ _ _ _ _ _
  · exact below_set6 (below_under hb) _ _ _ _ _ _

theorem proto461 (w : World) : Calls Tryz.prog 129 #[] w fun e w' => ∃ vc, e = .returned (.agg #[.string ⟨#[113, 117, 105, 99, 45, 118, 49]⟩, .int .i64 461, vc, .int .i64 0, .bool false, .nilIface]) ∧ Fresh w.heap.size w' vc (Lib.uvarint 461) ∧ Below w.heap.size w w' := by
  have H171 : ∀ wx, Calls Tryz.prog 171 #[.int .i64 461] wx fun e w' => ∃ v, e = .returned v ∧ Fresh wx.heap.size w' v (Lib.uvarint 461) ∧ Below wx.heap.size wx w' := fun wx => codeToVarint 461 (by decide) wx
  go_enter Tryz.func129, Tryz.ntmps129
  go_wp2_with (first
    | (go_at_call 171; refine (H171 _).mono ?_; rintro e w2 ⟨v, rfl, ⟨g, hg1, hg2, rfl, hg4⟩, hb⟩; obtain ⟨hc, hf⟩ := bcell hb; have hz : w.heap.size < w2.heap.size := (by have := hb.size; simp at this; omega)))
  refine bodyPost_ret (v := .agg #[.string ⟨#[113, 117, 105, 99, 45, 118, 49]⟩, .int .i64 461, .slice (some ⟨g, 0, none⟩) (Lib.uvarint 461).length (Lib.uvarint 461).length, .int .i64 0, .bool false, .nilIface]) (by simp [results, Tryz.results129, go_sem, hc]) rfl ⟨_, rfl, ?_, ?_⟩
  · have hF : Fresh (w.heap.size + 1) w2 (.slice (some ⟨g, 0, none⟩) (Lib.uvarint 461).length (Lib.uvarint 461).length) (Lib.uvarint 461) := ⟨g, by simpa using hg1, hg2, rfl, hg4⟩
    exact hF.set6 _ _ _ _ _ _
  · exact below_set6 (below_under hb) _ _ _ _ _ _

theorem proto481 (w : World) : Calls Tryz.prog 133 #[] w fun e w' => ∃ vc, e = .returned (.agg #[.string ⟨#[104, 116, 116, 112, 45, 112, 97, 116, 104]⟩, .int .i64 481, vc, .int .i64 (-1), .bool false, tcG 229 230 231]) ∧ Fresh w.heap.size w' vc (Lib.uvarint 481) ∧ Below w.heap.size w w' := by
  have H171 : ∀ wx, Calls Tryz.prog 171 #[.int .i64 481] wx fun e w' => ∃ v, e = .returned v ∧ Fresh wx.heap.size w' v (Lib.uvarint 481) ∧ Below wx.heap.size wx w' := fun wx => codeToVarint 481 (by decide) wx
  go_enter Tryz.func133, Tryz.ntmps133
  go_wp2_with (first
    | (go_at_call 171; refine (H171 _).mono ?_; rintro e w2 ⟨v, rfl, ⟨g, hg1, hg2, rfl, hg4⟩, hb⟩; obtain ⟨hc, hf⟩ := bcell hb; have hz : w.heap.size < w2.heap.size := (by have := hb.size; simp at this; omega))
    | (go_at_call 183; refine (tc183 _).mono ?_; rintro e w3 ⟨rfl, rfl⟩))
  refine bodyPost_ret (v := .agg #[.string ⟨#[104, 116, 116, 112, 45, 112, 97, 116, 104]⟩, .int .i64 481, .slice (some ⟨g, 0, none⟩) (Lib.uvarint 481).length (Lib.uvarint 481).length, .int .i64 (-1), .bool false, tcG 229 230 231]) (by simp [results, Tryz.results133, go_sem, hc]) rfl ⟨_, rfl, ?_, ?_⟩
  · have hF : Fresh (w.heap.size + 1) w2 (.slice (some ⟨g, 0, none⟩) (Lib.uvarint 481).length (Lib.uvarint 481).length) (Lib.uvarint 481) := ⟨g, by simpa using hg1, hg2, rfl, hg4⟩
    exact hF.set6 _ _ _ _ _ _
  · exact below_set6 (below_under hb) _ _ _ _ _ _

theorem proto276 (w : World) : Calls Tryz.prog 137 #[] w fun e w' => ∃ vc, e = .returned (.agg #[.string ⟨#[112, 50, 112, 45, 119, 101, 98, 114, 116, 99, 45, 100, 105, 114, 101, 99, 116]⟩, .int .i64 276, vc, .int .i64 0, .bool false, .nilIface]) ∧ Fresh w.heap.size w' vc (Lib.uvarint 276) ∧ Below w.heap.size w w' := by
  have H171 : ∀ wx, Calls Tryz.prog 171 #[.int .i64 276] wx fun e w' => ∃ v, e = .returned v ∧ Fresh wx.heap.size w' v (Lib.uvarint 276) ∧ Below wx.heap.size wx w' := fun wx => codeToVarint 276 (by decide) wx
  go_enter Tryz.func137, Tryz.ntmps137
  go_wp2_with (first
    | (go_at_call 171; refine (H171 _).mono ?_; rintro e w2 ⟨v, rfl, ⟨g, hg1, hg2, rfl, hg4⟩, hb⟩; obtain ⟨hc, hf⟩ := bcell hb; have hz : w.heap.size < w2.heap.size := (by have := hb.size; simp at this; omega)))
  refine bodyPost_ret (v := .agg #[.string ⟨#[112, 50, 112, 45, 119, 101, 98, 114, 116, 99, 45, 100, 105, 114, 101, 99, 116]⟩, .int .i64 276, .slice (some ⟨g, 0, none⟩) (Lib.uvarint 276).length (Lib.uvarint 276).length, .int .i64 0, .bool false, .nilIface]) (by simp [results, Tryz.results137, go_sem, hc]) rfl ⟨_, rfl, ?_, ?_⟩
  · have hF : Fresh (w.heap.size + 1) w2 (.slice (some ⟨g, 0, none⟩) (Lib.uvarint 276).length (Lib.uvarint 276).length) (Lib.uvarint 276) := ⟨g, by simpa using hg1, hg2, rfl, hg4⟩
    exact hF.set6 _ _ _ _ _ _
  · exact below_set6 (below_under hb) _ _ _ _ _ _

theorem proto477 (w : World) : Calls Tryz.prog 141 #[] w fun e w' => ∃ vc, e = .returned (.agg #[.string ⟨#[119, 115]⟩, .int .i64 477, vc, .int .i64 0, .bool false, .nilIface]) ∧ Fresh w.heap.size w' vc (Lib.uvarint 477) ∧ Below w.heap.size w w' := by
  have H171 : ∀ wx, Calls Tryz.prog 171 #[.int .i64 477] wx fun e w' => ∃ v, e = .returned v ∧ Fresh wx.heap.size w' v (Lib.uvarint 477) ∧ Below wx.heap.size wx w' := fun wx => codeToVarint 477 (by decide) wx
  go_enter Tryz.func141, Tryz.ntmps141
  go_wp2_with (first
    | (go_at_call 171; refine (H171 _).mono ?_; rintro e w2 ⟨v, rfl, ⟨g, hg1, hg2, rfl, hg4⟩, hb⟩; obtain ⟨hc, hf⟩ := bcell hb; have hz : w.heap.size < w2.heap.size := (by have := hb.size; simp at this; omega)))
  refine bodyPost_ret (v := .agg #[.string ⟨#[119, 115]⟩, .int .i64 477, .slice (some ⟨g, 0, none⟩) (Lib.uvarint 477).length (Lib.uvarint 477).length, .int .i64 0, .bool false, .nilIface]) (by simp [results, Tryz.results141, go_sem, hc]) rfl ⟨_, rfl, ?_, ?_⟩
  · have hF : Fresh (w.heap.size + 1) w2 (.slice (some ⟨g, 0, none⟩) (Lib.uvarint 477).length (Lib.uvarint 477).length) (Lib.uvarint 477) := ⟨g, by simpa using hg1, hg2, rfl, hg4⟩
    exact hF.set6 _ _ _ _ _ _
  · exact below_set6 (below_under hb) _ _ _ _ _ _

theorem proto281 (w : World) : Calls Tryz.prog 145 #[] w fun e w' => ∃ vc, e = .returned (.agg #[.string ⟨#[119, 101, 98, 114, 116, 99]⟩, .int .i64 281, vc, .int .i64 0, .bool false, .nilIface]) ∧ Fresh w.heap.size w' vc (Lib.uvarint 281) ∧ Below w.heap.size w w' := by
  have H171 : ∀ wx, Calls Tryz.prog 171 #[.int .i64 281] wx fun e w' => ∃ v, e = .returned v ∧ Fresh wx.heap.size w' v (Lib.uvarint 281) ∧ Below wx.heap.size wx w' := fun wx => codeToVarint 281 (by decide) wx
  go_enter Tryz.func145, Tryz.ntmps145
  go_wp2_with (first
    | (go_at_call 171; refine (H171 _).mono ?_; rintro e w2 ⟨v, rfl, ⟨g, hg1, hg2, rfl, hg4⟩, hb⟩; obtain ⟨hc, hf⟩ := bcell hb; have hz : w.heap.size < w2.heap.size := (by have := hb.size; simp at this; omega)))
  refine bodyPost_ret (v := .agg #[.string ⟨#[119, 101, 98, 114, 116, 99]⟩, .int .i64 281, .slice (some ⟨g, 0, none⟩) (Lib.uvarint 281).length (Lib.uvarint 281).length, .int .i64 0, .bool false, .nilIface]) (by simp [results, Tryz.results145, go_sem, hc]) rfl ⟨_, rfl, ?_, ?_⟩
  · have hF : Fresh (w.heap.size + 1) w2 (.slice (some ⟨g, 0, none⟩) (Lib.uvarint 281).length (Lib.uvarint 281).length) (Lib.uvarint 281) := ⟨g, by simpa using hg1, hg2, rfl, hg4⟩
    exact hF.set6 _ _ _ _ _ _
  · exact below_set6 (below_under hb) _ _ _ _ _ _

end Go.Proofs.YtnpcmmjdojdmnaaGreatDoor
namespace Go.Proofs.YtnpcmmjdojdmnaaGreatDoor
open Go Go.RowKit

theorem proto6 (w : World) : Calls Tryz.prog 110 #[] w fun e w' => ∃ vc, e = .returned (.agg #[.string ⟨#[116, 99, 112]⟩, .int .i64 6, vc, .int .i64 16, .bool false, tcF 201 202]) ∧ Fresh w.heap.size w' vc (Lib.uvarint 6) ∧ Below w.heap.size w w' := by
  have H171 : ∀ wx, Calls Tryz.prog 171 #[.int .i64 6] wx fun e w' => ∃ v, e = .returned v ∧ Fresh wx.heap.size w' v (Lib.uvarint 6) ∧ Below wx.heap.size wx w' := fun wx => codeToVarint 6 (by decide) wx
  go_enter Tryz.func110, Tryz.ntmps110
  go_wp2_with (first
    | (go_at_call 171; refine (H171 _).mono ?_; rintro e w2 ⟨v, rfl, ⟨g, hg1, hg2, rfl, hg4⟩, hb⟩; obtain ⟨hc, hf⟩ := bcell hb; have hz : w.heap.size < w2.heap.size := (by have := hb.size; simp at this; omega))
    | (go_at_call 173; refine (tc173 _).mono ?_; rintro e w3 ⟨rfl, rfl⟩))
  refine bodyPost_ret (v := .agg #[.string ⟨#[116, 99, 112]⟩, .int .i64 6, .slice (some ⟨g, 0, none⟩) (Lib.uvarint 6).length (Lib.uvarint 6).length, .int .i64 16, .bool false, tcF 201 202]) (by simp [results, Tryz.results110, go_sem, hc]) rfl ⟨_, rfl, ?_, ?_⟩
  · have hF : Fresh (w.heap.size + 1) w2 (.slice (some ⟨g, 0, none⟩) (Lib.uvarint 6).length (Lib.uvarint 6).length) (Lib.uvarint 6) := ⟨g, by simpa using hg1, hg2, rfl, hg4⟩
    exact hF.set6 _ _ _ _ _ _
  · exact below_set6 (below_under hb) _ _ _ _ _ _

theorem proto56 (w : World) : Calls Tryz.prog 114 #[] w fun e w' => ∃ vc, e = .returned (.agg #[.string ⟨#[100, 110, 115, 97, 100, 100, 114]⟩, .int .i64 56, vc, .int .i64 (-1), .bool false, tcG 203 204 205]) ∧ Fresh w.heap.size w' vc (Lib.uvarint 56) ∧ Below w.heap.size w w' := by
  have H171 : ∀ wx, Calls Tryz.prog 171 #[.int .i64 56] wx fun e w' => ∃ v, e = .returned v ∧ Fresh wx.heap.size w' v (Lib.uvarint 56) ∧ Below wx.heap.size wx w' := fun wx => codeToVarint 56 (by decide) wx
  go_enter Tryz.func114, Tryz.ntmps114
  go_wp2_with (first
    | (go_at_call 171; refine (H171 _).mono ?_; rintro e w2 ⟨v, rfl, ⟨g, hg1, hg2, rfl, hg4⟩, hb⟩; obtain ⟨hc, hf⟩ := bcell hb; have hz : w.heap.size < w2.heap.size := (by have := hb.size; simp at this; omega))
    | (go_at_call 174; refine (tc174 _).mono ?_; rintro e w3 ⟨rfl, rfl⟩))
  refine bodyPost_ret (v := .agg #[.string ⟨#[100, 110, 115, 97, 100, 100, 114]⟩, .int .i64 56, .slice (some ⟨g, 0, none⟩) (Lib.uvarint 56).length (Lib.uvarint 56).length, .int .i64 (-1), .bool false, tcG 203 204 205]) (by simp [results, Tryz.results114, go_sem, hc]) rfl ⟨_, rfl, ?_, ?_⟩
  · have hF : Fresh (w.heap.size + 1) w2 (.slice (some ⟨g, 0, none⟩) (Lib.uvarint 56).length (Lib.uvarint 56).length) (Lib.uvarint 56) := ⟨g, by simpa using hg1, hg2, rfl, hg4⟩
    exact hF.set6 _ _ _ _ _ _
  · exact below_set6 (below_under hb) _ _ _ _ _ _

theorem proto42 (w : World) : Calls Tryz.prog 118 #[] w fun e w' => ∃ vc, e = .returned (.agg #[.string ⟨#[105, 112, 54, 122, 111, 110, 101]⟩, .int .i64 42, vc, .int .i64 (-1), .bool false, tcG 208 209 210]) ∧ Fresh w.heap.size w' vc (Lib.uvarint 42) ∧ Below w.heap.size w w' := by
  have H171 : ∀ wx, Calls Tryz.prog 171 #[.int .i64 42] wx fun e w' => ∃ v, e = .returned v ∧ Fresh wx.heap.size w' v (Lib.uvarint 42) ∧ Below wx.heap.size wx w' := fun wx => codeToVarint 42 (by decide) wx
  go_enter Tryz.func118, Tryz.ntmps118
  go_wp2_with (first
    | (go_at_call 171; refine (H171 _).mono ?_; rintro e w2 ⟨v, rfl, ⟨g, hg1, hg2, rfl, hg4⟩, hb⟩; obtain ⟨hc, hf⟩ := bcell hb; have hz : w.heap.size < w2.heap.size := (by have := hb.size; simp at this; omega))
    | (go_at_call 176; refine (tc176 _).mono ?_; rintro e w3 ⟨rfl, rfl⟩))
  refine bodyPost_ret (v := .agg #[.string ⟨#[105, 112, 54, 122, 111, 110, 101]⟩, .int .i64 42, .slice (some ⟨g, 0, none⟩) (Lib.uvarint 42).length (Lib.uvarint 42).length, .int .i64 (-1), .bool false, tcG 208 209 210]) (by simp [results, Tryz.results118, go_sem, hc]) rfl ⟨_, rfl, ?_, ?_⟩
  · have hF : Fresh (w.heap.size + 1) w2 (.slice (some ⟨g, 0, none⟩) (Lib.uvarint 42).length (Lib.uvarint 42).length) (Lib.uvarint 42) := ⟨g, by simpa using hg1, hg2, rfl, hg4⟩
    exact hF.set6 _ _ _ _ _ _
  · exact below_set6 (below_under hb) _ _ _ _ _ _

theorem proto444 (w : World) : Calls Tryz.prog 122 #[] w fun e w' => ∃ vc, e = .returned (.agg #[.string ⟨#[111, 110, 105, 111, 110]⟩, .int .i64 444, vc, .int .i64 96, .bool false, tcG 214 215 216]) ∧ Fresh w.heap.size w' vc (Lib.uvarint 444) ∧ Below w.heap.size w w' := by
  have H171 : ∀ wx, Calls Tryz.prog 171 #[.int .i64 444] wx fun e w' => ∃ v, e = .returned v ∧ Fresh wx.heap.size w' v (Lib.uvarint 444) ∧ Below wx.heap.size wx w' := fun wx => codeToVarint 444 (by decide) wx
  go_enter Tryz.func122, Tryz.ntmps122
  go_wp2_with (first
    | (go_at_call 171; refine (H171 _).mono ?_; rintro e w2 ⟨v, rfl, ⟨g, hg1, hg2, rfl, hg4⟩, hb⟩; obtain ⟨hc, hf⟩ := bcell hb; have hz : w.heap.size < w2.heap.size := (by have := hb.size; simp at this; omega))
    | (go_at_call 178; refine (tc178 _).mono ?_; rintro e w3 ⟨rfl, rfl⟩))
  refine bodyPost_ret (v := .agg #[.string ⟨#[111, 110, 105, 111, 110]⟩, .int .i64 444, .slice (some ⟨g, 0, none⟩) (Lib.uvarint 444).length (Lib.uvarint 444).length, .int .i64 96, .bool false, tcG 214 215 216]) (by simp [results, Tryz.results122, go_sem, hc]) rfl ⟨_, rfl, ?_, ?_⟩
  · have hF : Fresh (w.heap.size + 1) w2 (.slice (some ⟨g, 0, none⟩) (Lib.uvarint 444).length (Lib.uvarint 444).length) (Lib.uvarint 444) := ⟨g, by simpa using hg1, hg2, rfl, hg4⟩
    exact hF.set6 _ _ _ _ _ _
  · exact below_set6 (below_under hb) _ _ _ _ _ _

theorem proto302 (w : World) : Calls Tryz.prog 126 #[] w fun e w' => ∃ vc, e = .returned (.agg #[.string ⟨#[117, 116, 112]⟩, .int .i64 302, vc, .int .i64 0, .bool false, .nilIface]) ∧ Fresh w.heap.size w' vc (Lib.uvarint 302) ∧ Below w.heap.size w w' := by
  have H171 : ∀ wx, Calls Tryz.prog 171 #[.int .i64 302] wx fun e w' => ∃ v, e = .returned v ∧ Fresh wx.heap.size w' v (Lib.uvarint 302) ∧ Below wx.heap.size wx w' := fun wx => codeToVarint 302 (by decide) wx
  go_enter Tryz.func126, Tryz.ntmps126
  go_wp2_with (first
    | (go_at_call 171; refine (H171 _).mono ?_; rintro e w2 ⟨v, rfl, ⟨g, hg1, hg2, rfl, hg4⟩, hb⟩; obtain ⟨hc, hf⟩ := bcell hb; have hz : w.heap.size < w2.heap.size := (by have := hb.size; simp at this; omega)))
  refine bodyPost_ret (v := .agg #[.string ⟨#[117, 116, 112]⟩, .int .i64 302, .slice (some ⟨g, 0, none⟩) (Lib.uvarint 302).length (Lib.uvarint 302).length, .int .i64 0, .bool false, .nilIface]) (by simp [results, Tryz.results126, go_sem, hc]) rfl ⟨_, rfl, ?_, ?_⟩
  · have hF : Fresh (w.heap.size + 1) w2 (.slice (some ⟨g, 0, none⟩) (Lib.uvarint 302).length (Lib.uvarint 302).length) (Lib.uvarint 302) := ⟨g, by simpa using hg1, hg2, rfl, hg4⟩
    exact hF.set6 _ _ _ _ _ _
  · exact below_set6 (below_under hb) _ _ _ _ _ _

theorem proto465 (w : World) : Calls Tryz.prog 130 #[] w fun e w' => ∃ vc, e = .returned (.agg #[.string ⟨#[119, 101, 98, 116, 114, 97, 110, 115, 112, 111, 114, 116]⟩, .int .i64 465, vc, .int .i64 0, .bool false, .nilIface]) ∧ Fresh w.heap.size w' vc (Lib.uvarint 465) ∧ Below w.heap.size w w' := by
  have H171 : ∀ wx, Calls Tryz.prog 171 #[.int .i64 465] wx fun e w' => ∃ v, e = .returned v ∧ Fresh wx.heap.size w' v (Lib.uvarint 465) ∧ Below wx.heap.size wx w' := fun wx => codeToVarint 465 (by decide) wx
  go_enter Tryz.func130, Tryz.ntmps130
  go_wp2_with (first
    | (go_at_call 171; refine (H171 _).mono ?_; rintro e w2 ⟨v, rfl, ⟨g, hg1, hg2, rfl, hg4⟩, hb⟩; obtain ⟨hc, hf⟩ := bcell hb; have hz : w.heap.size < w2.heap.size := (by have := hb.size; simp at this; omega)))
  refine bodyPost_ret (v := .agg #[.string ⟨#[119, 101, 98, 116, 114, 97, 110, 115, 112, 111, 114, 116]⟩, .int .i64 465, .slice (some ⟨g, 0, none⟩) (Lib.uvarint 465).length (Lib.uvarint 465).length, .int .i64 0, .bool false, .nilIface]) (by simp [results, Tryz.results130, go_sem, hc]) rfl ⟨_, rfl, ?_, ?_⟩
  · have hF : Fresh (w.heap.size + 1) w2 (.slice (some ⟨g, 0, none⟩) (Lib.uvarint 465).length (Lib.uvarint 465).length) (Lib.uvarint 465) := ⟨g, by simpa using hg1, hg2, rfl, hg4⟩
    exact hF.set6 _ _ _ _ _ _
  · exact below_set6 (below_under hb) _ _ _ _ _ _

theorem proto443 (w : World) : Calls Tryz.prog 134 #[] w fun e w' => ∃ vc, e = .returned (.agg #[.string ⟨#[104, 116, 116, 112, 115]⟩, .int .i64 443, vc, .int .i64 0, .bool false, .nilIface]) ∧ Fresh w.heap.size w' vc (Lib.uvarint 443) ∧ Below w.heap.size w w' := by
  have H171 : ∀ wx, Calls Tryz.prog 171 #[.int .i64 443] wx fun e w' => ∃ v, e = .returned v ∧ Fresh wx.heap.size w' v (Lib.uvarint 443) ∧ Below wx.heap.size wx w' := fun wx => codeToVarint 443 (by decide) wx
  go_enter Tryz.func134, Tryz.ntmps134
  go_wp2_with (first
    | (go_at_call 171; refine (H171 _).mono ?_; rintro e w2 ⟨v, rfl, ⟨g, hg1, hg2, rfl, hg4⟩, hb⟩; obtain ⟨hc, hf⟩ := bcell hb; have hz : w.heap.size < w2.heap.size := (by have := hb.size; simp at this; omega)))
  refine bodyPost_ret (v := .agg #[.string ⟨#[104, 116, 116, 112, 115]⟩, .int .i64 443, .slice (some ⟨g, 0, none⟩) (Lib.uvarint 443).length (Lib.uvarint 443).length, .int .i64 0, .bool false, .nilIface]) (by simp [results, Tryz.results134, go_sem, hc]) rfl ⟨_, rfl, ?_, ?_⟩
  · have hF : Fresh (w.heap.size + 1) w2 (.slice (some ⟨g, 0, none⟩) (Lib.uvarint 443).length (Lib.uvarint 443).length) (Lib.uvarint 443) := ⟨g, by simpa using hg1, hg2, rfl, hg4⟩
    exact hF.set6 _ _ _ _ _ _
  · exact below_set6 (below_under hb) _ _ _ _ _ _

theorem proto448 (w : World) : Calls Tryz.prog 138 #[] w fun e w' => ∃ vc, e = .returned (.agg #[.string ⟨#[116, 108, 115]⟩, .int .i64 448, vc, .int .i64 0, .bool false, .nilIface]) ∧ Fresh w.heap.size w' vc (Lib.uvarint 448) ∧ Below w.heap.size w w' := by
  have H171 : ∀ wx, Calls Tryz.prog 171 #[.int .i64 448] wx fun e w' => ∃ v, e = .returned v ∧ Fresh wx.heap.size w' v (Lib.uvarint 448) ∧ Below wx.heap.size wx w' := fun wx => codeToVarint 448 (by decide) wx
  go_enter Tryz.func138, Tryz.ntmps138
  go_wp2_with (first
    | (go_at_call 171; refine (H171 _).mono ?_; rintro e w2 ⟨v, rfl, ⟨g, hg1, hg2, rfl, hg4⟩, hb⟩; obtain ⟨hc, hf⟩ := bcell hb; have hz : w.heap.size < w2.heap.size := (by have := hb.size; simp at this; omega)))
  refine bodyPost_ret (v := .agg #[.string ⟨#[116, 108, 115]⟩, .int .i64 448, .slice (some ⟨g, 0, none⟩) (Lib.uvarint 448).length (Lib.uvarint 448).length, .int .i64 0, .bool false, .nilIface]) (by simp [results, Tryz.results138, go_sem, hc]) rfl ⟨_, rfl, ?_, ?_⟩
  · have hF : Fresh (w.heap.size + 1) w2 (.slice (some ⟨g, 0, none⟩) (Lib.uvarint 448).length (Lib.uvarint 448).length) (Lib.uvarint 448) := ⟨g, by simpa using hg1, hg2, rfl, hg4⟩
    exact hF.set6 _ _ _ _ _ _
  · exact below_set6 (below_under hb) _ _ _ _ _ _

theorem proto478 (w : World) : Calls Tryz.prog 142 #[] w fun e w' => ∃ vc, e = .returned (.agg #[.string ⟨#[119, 115, 115]⟩, .int .i64 478, vc, .int .i64 0, .bool false, .nilIface]) ∧ Fresh w.heap.size w' vc (Lib.uvarint 478) ∧ Below w.heap.size w w' := by
  have H171 : ∀ wx, Calls Tryz.prog 171 #[.int .i64 478] wx fun e w' => ∃ v, e = .returned v ∧ Fresh wx.heap.size w' v (Lib.uvarint 478) ∧ Below wx.heap.size wx w' := fun wx => codeToVarint 478 (by decide) wx
  go_enter Tryz.func142, Tryz.ntmps142
  go_wp2_with (first
    | (go_at_call 171; refine (H171 _).mono ?_; rintro e w2 ⟨v, rfl, ⟨g, hg1, hg2, rfl, hg4⟩, hb⟩; obtain ⟨hc, hf⟩ := bcell hb; have hz : w.heap.size < w2.heap.size := (by have := hb.size; simp at this; omega)))
  refine bodyPost_ret (v := .agg #[.string ⟨#[119, 115, 115]⟩, .int .i64 478, .slice (some ⟨g, 0, none⟩) (Lib.uvarint 478).length (Lib.uvarint 478).length, .int .i64 0, .bool false, .nilIface]) (by simp [results, Tryz.results142, go_sem, hc]) rfl ⟨_, rfl, ?_, ?_⟩
  · have hF : Fresh (w.heap.size + 1) w2 (.slice (some ⟨g, 0, none⟩) (Lib.uvarint 478).length (Lib.uvarint 478).length) (Lib.uvarint 478) := ⟨g, by simpa using hg1, hg2, rfl, hg4⟩
    exact hF.set6 _ _ _ _ _ _
  · exact below_set6 (below_under hb) _ _ _ _ _ _

theorem proto777 (w : World) : Calls Tryz.prog 146 #[] w fun e w' => ∃ vc, e = .returned (.agg #[.string ⟨#[109, 101, 109, 111, 114, 121]⟩, .int .i64 777, vc, .int .i64 64, .bool false, tcG 238 239 240]) ∧ Fresh w.heap.size w' vc (Lib.uvarint 777) ∧ Below w.heap.size w w' := by
  have H171 : ∀ wx, Calls Tryz.prog 171 #[.int .i64 777] wx fun e w' => ∃ v, e = .returned v ∧ Fresh wx.heap.size w' v (Lib.uvarint 777) ∧ Below wx.heap.size wx w' := fun wx => codeToVarint 777 (by decide) wx
  go_enter Tryz.func146, Tryz.ntmps146
  go_wp2_with (first
    | (go_at_call 171; refine (H171 _).mono ?_; rintro e w2 ⟨v, rfl, ⟨g, hg1, hg2, rfl, hg4⟩, hb⟩; obtain ⟨hc, hf⟩ := bcell hb; have hz : w.heap.size < w2.heap.size := (by have := hb.size; simp at this; omega))
    | (go_at_call 186; refine (tc186 _).mono ?_; rintro e w3 ⟨rfl, rfl⟩))
  refine bodyPost_ret (v := .agg #[.string ⟨#[109, 101, 109, 111, 114, 121]⟩, .int .i64 777, .slice (some ⟨g, 0, none⟩) (Lib.uvarint 777).length (Lib.uvarint 777).length, .int .i64 64, .bool false, tcG 238 239 240]) (by simp [results, Tryz.results146, go_sem, hc]) rfl ⟨_, rfl, ?_, ?_⟩
  · have hF : Fresh (w.heap.size + 1) w2 (.slice (some ⟨g, 0, none⟩) (Lib.uvarint 777).length (Lib.uvarint 777).length) (Lib.uvarint 777) := ⟨g, by simpa using hg1, hg2, rfl, hg4⟩
    exact hF.set6 _ _ _ _ _ _
  · exact below_set6 (below_under hb) _ _ _ _ _ _

end Go.Proofs.YtnpcmmjdojdmnaaGreatDoor
