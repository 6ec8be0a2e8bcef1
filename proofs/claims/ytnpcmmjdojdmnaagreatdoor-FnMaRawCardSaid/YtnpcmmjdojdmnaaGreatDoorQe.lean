/- Protocols of the table, as the program makes them: part 2. Protocols of the table, as the program makes them: part 3. -/
import Derived.Test.YtnpcmmjdojdmnaaGreatDoorQc
namespace Go.Proofs.YtnpcmmjdojdmnaaGreatDoor
open Go Go.RowKit

theorem proto53 (w : World) : Calls Tryz.prog 111 #[] w fun e w' => ∃ vc, e = .returned (.agg #[.string ⟨#[100, 110, 115]⟩, .int .i64 53, vc, .int .i64 (-1), .bool false, tcG 203 204 205]) ∧ Fresh w.heap.size w' vc (Lib.uvarint 53) ∧ Below w.heap.size w w' := by
  have H171 : ∀ wx, Calls Tryz.prog 171 #[.int .i64 53] wx fun e w' => ∃ v, e = .returned v ∧ Fresh wx.heap.size w' v (Lib.uvarint 53) ∧ Below wx.heap.size wx w' := fun wx => codeToVarint 53 (by decide) wx
  go_enter Tryz.func111, Tryz.ntmps111
  go_wp2_with (first
    | (go_at_call 171; refine (H171 _).mono ?_; rintro e w2 ⟨v, rfl, ⟨g, hg1, hg2, rfl, hg4⟩, hb⟩; obtain ⟨hc, hf⟩ := bcell hb; have hz : w.heap.size < w2.heap.size := (by have := hb.size; simp at this; omega))
    | (go_at_call 174; refine (tc174 _).mono ?_; rintro e w3 ⟨rfl, rfl⟩))
  refine bodyPost_ret (v := .agg #[.string ⟨#[100, 110, 115]⟩, .int .i64 53, .slice (some ⟨g, 0, none⟩) (Lib.uvarint 53).length (Lib.uvarint 53).length, .int .i64 (-1), .bool false, tcG 203 204 205]) (by simp [results, Tryz.results111, go_sem, hc]) rfl ⟨_, rfl, ?_, ?_⟩
  · have hF : Fresh (w.heap.size + 1) w2 (.slice (some ⟨g, 0, none⟩) (Lib.uvarint 53).length (Lib.uvarint 53).length) (Lib.uvarint 53) := ⟨g, by simpa using hg1, hg2, rfl, hg4⟩
    exact hF.set6 _ _ _ _ _ _
  · exact below_set6 (below_under hb) _ _ _ _ _ _

theorem proto273 (w : World) : Calls Tryz.prog 115 #[] w fun e w' => ∃ vc, e = .returned (.agg #[.string ⟨#[117, 100, 112]⟩, .int .i64 273, vc, .int .i64 16, .bool false, tcF 201 202]) ∧ Fresh w.heap.size w' vc (Lib.uvarint 273) ∧ Below w.heap.size w w' := by
  have H171 : ∀ wx, Calls Tryz.prog 171 #[.int .i64 273] wx fun e w' => ∃ v, e = .returned v ∧ Fresh wx.heap.size w' v (Lib.uvarint 273) ∧ Below wx.heap.size wx w' := fun wx => codeToVarint 273 (by decide) wx
  go_enter Tryz.func115, Tryz.ntmps115
  go_wp2_with (first
    | (go_at_call 171; refine (H171 _).mono ?_; rintro e w2 ⟨v, rfl, ⟨g, hg1, hg2, rfl, hg4⟩, hb⟩; obtain ⟨hc, hf⟩ := bcell hb; have hz : w.heap.size < w2.heap.size := (by have := hb.size; simp at this; omega))
    | (go_at_call 173; refine (tc173 _).mono ?_; rintro e w3 ⟨rfl, rfl⟩))
  refine bodyPost_ret (v := .agg #[.string ⟨#[117, 100, 112]⟩, .int .i64 273, .slice (some ⟨g, 0, none⟩) (Lib.uvarint 273).length (Lib.uvarint 273).length, .int .i64 16, .bool false, tcF 201 202]) (by simp [results, Tryz.results115, go_sem, hc]) rfl ⟨_, rfl, ?_, ?_⟩
  · have hF : Fresh (w.heap.size + 1) w2 (.slice (some ⟨g, 0, none⟩) (Lib.uvarint 273).length (Lib.uvarint 273).length) (Lib.uvarint 273) := ⟨g, by simpa using hg1, hg2, rfl, hg4⟩
    exact hF.set6 _ _ _ _ _ _
  · exact below_set6 (below_under hb) _ _ _ _ _ _

theorem proto43 (w : World) : Calls Tryz.prog 119 #[] w fun e w' => ∃ vc, e = .returned (.agg #[.string ⟨#[105, 112, 99, 105, 100, 114]⟩, .int .i64 43, vc, .int .i64 8, .bool false, tcG 211 212 213]) ∧ Fresh w.heap.size w' vc (Lib.uvarint 43) ∧ Below w.heap.size w w' := by
  have H171 : ∀ wx, Calls Tryz.prog 171 #[.int .i64 43] wx fun e w' => ∃ v, e = .returned v ∧ Fresh wx.heap.size w' v (Lib.uvarint 43) ∧ Below wx.heap.size wx w' := fun wx => codeToVarint 43 (by decide) wx
  go_enter Tryz.func119, Tryz.ntmps119
  go_wp2_with (first
    | (go_at_call 171; refine (H171 _).mono ?_; rintro e w2 ⟨v, rfl, ⟨g, hg1, hg2, rfl, hg4⟩, hb⟩; obtain ⟨hc, hf⟩ := bcell hb; have hz : w.heap.size < w2.heap.size := (by have := hb.size; simp at this; omega))
    | (go_at_call 177; refine (tc177 _).mono ?_; rintro e w3 ⟨rfl, rfl⟩))
  refine bodyPost_ret (v := .agg #[.string ⟨#[105, 112, 99, 105, 100, 114]⟩, .int .i64 43, .slice (some ⟨g, 0, none⟩) (Lib.uvarint 43).length (Lib.uvarint 43).length, .int .i64 8, .bool false, tcG 211 212 213]) (by simp [results, Tryz.results119, go_sem, hc]) rfl ⟨_, rfl, ?_, ?_⟩
  · have hF : Fresh (w.heap.size + 1) w2 (.slice (some ⟨g, 0, none⟩) (Lib.uvarint 43).length (Lib.uvarint 43).length) (Lib.uvarint 43) := ⟨g, by simpa using hg1, hg2, rfl, hg4⟩
    exact hF.set6 _ _ _ _ _ _
  · exact below_set6 (below_under hb) _ _ _ _ _ _

theorem proto445 (w : World) : Calls Tryz.prog 123 #[] w fun e w' => ∃ vc, e = .returned (.agg #[.string ⟨#[111, 110, 105, 111, 110, 51]⟩, .int .i64 445, vc, .int .i64 296, .bool false, tcG 217 218 219]) ∧ Fresh w.heap.size w' vc (Lib.uvarint 445) ∧ Below w.heap.size w w' := by
  have H171 : ∀ wx, Calls Tryz.prog 171 #[.int .i64 445] wx fun e w' => ∃ v, e = .returned v ∧ Fresh wx.heap.size w' v (Lib.uvarint 445) ∧ Below wx.heap.size wx w' := fun wx => codeToVarint 445 (by decide) wx
  go_enter Tryz.func123, Tryz.ntmps123
  go_wp2_with (first
    | (go_at_call 171; refine (H171 _).mono ?_; rintro e w2 ⟨v, rfl, ⟨g, hg1, hg2, rfl, hg4⟩, hb⟩; obtain ⟨hc, hf⟩ := bcell hb; have hz : w.heap.size < w2.heap.size := (by have := hb.size; simp at this; omega))
    | (go_at_call 179; refine (tc179 _).mono ?_; rintro e w3 ⟨rfl, rfl⟩))
  refine bodyPost_ret (v := .agg #[.string ⟨#[111, 110, 105, 111, 110, 51]⟩, .int .i64 445, .slice (some ⟨g, 0, none⟩) (Lib.uvarint 445).length (Lib.uvarint 445).length, .int .i64 296, .bool false, tcG 217 218 219]) (by simp [results, Tryz.results123, go_sem, hc]) rfl ⟨_, rfl, ?_, ?_⟩
  · have hF : Fresh (w.heap.size + 1) w2 (.slice (some ⟨g, 0, none⟩) (Lib.uvarint 445).length (Lib.uvarint 445).length) (Lib.uvarint 445) := ⟨g, by simpa using hg1, hg2, rfl, hg4⟩
    exact hF.set6 _ _ _ _ _ _
  · exact below_set6 (below_under hb) _ _ _ _ _ _

theorem proto301 (w : World) : Calls Tryz.prog 127 #[] w fun e w' => ∃ vc, e = .returned (.agg #[.string ⟨#[117, 100, 116]⟩, .int .i64 301, vc, .int .i64 0, .bool false, .nilIface]) ∧ Fresh w.heap.size w' vc (Lib.uvarint 301) ∧ Below w.heap.size w w' := by
  have H171 : ∀ wx, Calls Tryz.prog 171 #[.int .i64 301] wx fun e w' => ∃ v, e = .returned v ∧ Fresh wx.heap.size w' v (Lib.uvarint 301) ∧ Below wx.heap.size wx w' := fun wx => codeToVarint 301 (by decide) wx
  go_enter Tryz.func127, Tryz.ntmps127
  go_wp2_with (first
    | (go_at_call 171; refine (H171 _).mono ?_; rintro e w2 ⟨v, rfl, ⟨g, hg1, hg2, rfl, hg4⟩, hb⟩; obtain ⟨hc, hf⟩ := bcell hb; have hz : w.heap.size < w2.heap.size := (by have := hb.size; simp at this; omega)))
  refine bodyPost_ret (v := .agg #[.string ⟨#[117, 100, 116]⟩, .int .i64 301, .slice (some ⟨g, 0, none⟩) (Lib.uvarint 301).length (Lib.uvarint 301).length, .int .i64 0, .bool false, .nilIface]) (by simp [results, Tryz.results127, go_sem, hc]) rfl ⟨_, rfl, ?_, ?_⟩
  · have hF : Fresh (w.heap.size + 1) w2 (.slice (some ⟨g, 0, none⟩) (Lib.uvarint 301).length (Lib.uvarint 301).length) (Lib.uvarint 301) := ⟨g, by simpa using hg1, hg2, rfl, hg4⟩
    exact hF.set6 _ _ _ _ _ _
  · exact below_set6 (below_under hb) _ _ _ _ _ _

theorem proto466 (w : World) : Calls Tryz.prog 131 #[] w fun e w' => ∃ vc, e = .returned (.agg #[.string ⟨#[99, 101, 114, 116, 104, 97, 115, 104]⟩, .int .i64 466, vc, .int .i64 (-1), .bool false, tcG 226 227 228]) ∧ Fresh w.heap.size w' vc (Lib.uvarint 466) ∧ Below w.heap.size w w' := by
  have H171 : ∀ wx, Calls Tryz.prog 171 #[.int .i64 466] wx fun e w' => ∃ v, e = .returned v ∧ Fresh wx.heap.size w' v (Lib.uvarint 466) ∧ Below wx.heap.size wx w' := fun wx => codeToVarint 466 (by decide) wx
  go_enter Tryz.func131, Tryz.ntmps131
  go_wp2_with (first
    | (go_at_call 171; refine (H171 _).mono ?_; rintro e w2 ⟨v, rfl, ⟨g, hg1, hg2, rfl, hg4⟩, hb⟩; obtain ⟨hc, hf⟩ := bcell hb; have hz : w.heap.size < w2.heap.size := (by have := hb.size; simp at this; omega))
    | (go_at_call 182; refine (tc182 _).mono ?_; rintro e w3 ⟨rfl, rfl⟩))
  refine bodyPost_ret (v := .agg #[.string ⟨#[99, 101, 114, 116, 104, 97, 115, 104]⟩, .int .i64 466, .slice (some ⟨g, 0, none⟩) (Lib.uvarint 466).length (Lib.uvarint 466).length, .int .i64 (-1), .bool false, tcG 226 227 228]) (by simp [results, Tryz.results131, go_sem, hc]) rfl ⟨_, rfl, ?_, ?_⟩
  · have hF : Fresh (w.heap.size + 1) w2 (.slice (some ⟨g, 0, none⟩) (Lib.uvarint 466).length (Lib.uvarint 466).length) (Lib.uvarint 466) := ⟨g, by simpa using hg1, hg2, rfl, hg4⟩
    exact hF.set6 _ _ _ _ _ _
  · exact below_set6 (below_under hb) _ _ _ _ _ _

theorem proto421 (w : World) : Calls Tryz.prog 135 #[] w fun e w' => ∃ vc, e = .returned (.agg #[.string ⟨#[112, 50, 112]⟩, .int .i64 421, vc, .int .i64 (-1), .bool false, tcG 232 233 234]) ∧ Fresh w.heap.size w' vc (Lib.uvarint 421) ∧ Below w.heap.size w w' := by
  have H171 : ∀ wx, Calls Tryz.prog 171 #[.int .i64 421] wx fun e w' => ∃ v, e = .returned v ∧ Fresh wx.heap.size w' v (Lib.uvarint 421) ∧ Below wx.heap.size wx w' := fun wx => codeToVarint 421 (by decide) wx
  go_enter Tryz.func135, Tryz.ntmps135
  go_wp2_with (first
    | (go_at_call 171; refine (H171 _).mono ?_; rintro e w2 ⟨v, rfl, ⟨g, hg1, hg2, rfl, hg4⟩, hb⟩; obtain ⟨hc, hf⟩ := bcell hb; have hz : w.heap.size < w2.heap.size := (by have := hb.size; simp at this; omega))
    | (go_at_call 184; refine (tc184 _).mono ?_; rintro e w3 ⟨rfl, rfl⟩))
  refine bodyPost_ret (v := .agg #[.string ⟨#[112, 50, 112]⟩, .int .i64 421, .slice (some ⟨g, 0, none⟩) (Lib.uvarint 421).length (Lib.uvarint 421).length, .int .i64 (-1), .bool false, tcG 232 233 234]) (by simp [results, Tryz.results135, go_sem, hc]) rfl ⟨_, rfl, ?_, ?_⟩
  · have hF : Fresh (w.heap.size + 1) w2 (.slice (some ⟨g, 0, none⟩) (Lib.uvarint 421).length (Lib.uvarint 421).length) (Lib.uvarint 421) := ⟨g, by simpa using hg1, hg2, rfl, hg4⟩
    exact hF.set6 _ _ _ _ _ _
  · exact below_set6 (below_under hb) _ _ _ _ _ _

theorem proto449 (w : World) : Calls Tryz.prog 139 #[] w fun e w' => ∃ vc, e = .returned (.agg #[.string ⟨#[115, 110, 105]⟩, .int .i64 449, vc, .int .i64 (-1), .bool false, tcG 203 204 205]) ∧ Fresh w.heap.size w' vc (Lib.uvarint 449) ∧ Below w.heap.size w w' := by
  have H171 : ∀ wx, Calls Tryz.prog 171 #[.int .i64 449] wx fun e w' => ∃ v, e = .returned v ∧ Fresh wx.heap.size w' v (Lib.uvarint 449) ∧ Below wx.heap.size wx w' := fun wx => codeToVarint 449 (by decide) wx
  go_enter Tryz.func139, Tryz.ntmps139
  go_wp2_with (first
    | (go_at_call 171; refine (H171 _).mono ?_; rintro e w2 ⟨v, rfl, ⟨g, hg1, hg2, rfl, hg4⟩, hb⟩; obtain ⟨hc, hf⟩ := bcell hb; have hz : w.heap.size < w2.heap.size := (by have := hb.size; simp at this; omega))
    | (go_at_call 174; refine (tc174 _).mono ?_; rintro e w3 ⟨rfl, rfl⟩))
  refine bodyPost_ret (v := .agg #[.string ⟨#[115, 110, 105]⟩, .int .i64 449, .slice (some ⟨g, 0, none⟩) (Lib.uvarint 449).length (Lib.uvarint 449).length, .int .i64 (-1), .bool false, tcG 203 204 205]) (by simp [results, Tryz.results139, go_sem, hc]) rfl ⟨_, rfl, ?_, ?_⟩
  · have hF : Fresh (w.heap.size + 1) w2 (.slice (some ⟨g, 0, none⟩) (Lib.uvarint 449).length (Lib.uvarint 449).length) (Lib.uvarint 449) := ⟨g, by simpa using hg1, hg2, rfl, hg4⟩
    exact hF.set6 _ _ _ _ _ _
  · exact below_set6 (below_under hb) _ _ _ _ _ _

theorem proto7367777 (w : World) : Calls Tryz.prog 143 #[] w fun e w' => ∃ vc, e = .returned (.agg #[.string ⟨#[112, 108, 97, 105, 110, 116, 101, 120, 116, 118, 50]⟩, .int .i64 7367777, vc, .int .i64 0, .bool false, .nilIface]) ∧ Fresh w.heap.size w' vc (Lib.uvarint 7367777) ∧ Below w.heap.size w w' := by
  have H171 : ∀ wx, Calls Tryz.prog 171 #[.int .i64 7367777] wx fun e w' => ∃ v, e = .returned v ∧ Fresh wx.heap.size w' v (Lib.uvarint 7367777) ∧ Below wx.heap.size wx w' := fun wx => codeToVarint 7367777 (by decide) wx
  go_enter Tryz.func143, Tryz.ntmps143
  go_wp2_with (first
    | (go_at_call 171; refine (H171 _).mono ?_; rintro e w2 ⟨v, rfl, ⟨g, hg1, hg2, rfl, hg4⟩, hb⟩; obtain ⟨hc, hf⟩ := bcell hb; have hz : w.heap.size < w2.heap.size := (by have := hb.size; simp at this; omega)))
  refine bodyPost_ret (v := .agg #[.string ⟨#[112, 108, 97, 105, 110, 116, 101, 120, 116, 118, 50]⟩, .int .i64 7367777, .slice (some ⟨g, 0, none⟩) (Lib.uvarint 7367777).length (Lib.uvarint 7367777).length, .int .i64 0, .bool false, .nilIface]) (by simp [results, Tryz.results143, go_sem, hc]) rfl ⟨_, rfl, ?_, ?_⟩
  · have hF : Fresh (w.heap.size + 1) w2 (.slice (some ⟨g, 0, none⟩) (Lib.uvarint 7367777).length (Lib.uvarint 7367777).length) (Lib.uvarint 7367777) := ⟨g, by simpa using hg1, hg2, rfl, hg4⟩
    exact hF.set6 _ _ _ _ _ _
  · exact below_set6 (below_under hb) _ _ _ _ _ _

end Go.Proofs.YtnpcmmjdojdmnaaGreatDoor
namespace Go.Proofs.YtnpcmmjdojdmnaaGreatDoor
open Go Go.RowKit

theorem proto54 (w : World) : Calls Tryz.prog 112 #[] w fun e w' => ∃ vc, e = .returned (.agg #[.string ⟨#[100, 110, 115, 52]⟩, .int .i64 54, vc, .int .i64 (-1), .bool false, tcG 203 204 205]) ∧ Fresh w.heap.size w' vc (Lib.uvarint 54) ∧ Below w.heap.size w w' := by
  have H171 : ∀ wx, Calls Tryz.prog 171 #[.int .i64 54] wx fun e w' => ∃ v, e = .returned v ∧ Fresh wx.heap.size w' v (Lib.uvarint 54) ∧ Below wx.heap.size wx w' := fun wx => codeToVarint 54 (by decide) wx
  go_enter Tryz.func112, Tryz.ntmps112
  go_wp2_with (first
    | (go_at_call 171; refine (H171 _).mono ?_; rintro e w2 ⟨v, rfl, ⟨g, hg1, hg2, rfl, hg4⟩, hb⟩; obtain ⟨hc, hf⟩ := bcell hb; have hz : w.heap.size < w2.heap.size := (by have := hb.size; simp at this; omega))
    | (go_at_call 174; refine (tc174 _).mono ?_; rintro e w3 ⟨rfl, rfl⟩))
  refine bodyPost_ret (v := .agg #[.string ⟨#[100, 110, 115, 52]⟩, .int .i64 54, .slice (some ⟨g, 0, none⟩) (Lib.uvarint 54).length (Lib.uvarint 54).length, .int .i64 (-1), .bool false, tcG 203 204 205]) (by simp [results, Tryz.results112, go_sem, hc]) rfl ⟨_, rfl, ?_, ?_⟩
  · have hF : Fresh (w.heap.size + 1) w2 (.slice (some ⟨g, 0, none⟩) (Lib.uvarint 54).length (Lib.uvarint 54).length) (Lib.uvarint 54) := ⟨g, by simpa using hg1, hg2, rfl, hg4⟩
    exact hF.set6 _ _ _ _ _ _
  · exact below_set6 (below_under hb) _ _ _ _ _ _

theorem proto33 (w : World) : Calls Tryz.prog 116 #[] w fun e w' => ∃ vc, e = .returned (.agg #[.string ⟨#[100, 99, 99, 112]⟩, .int .i64 33, vc, .int .i64 16, .bool false, tcF 201 202]) ∧ Fresh w.heap.size w' vc (Lib.uvarint 33) ∧ Below w.heap.size w w' := by
  have H171 : ∀ wx, Calls Tryz.prog 171 #[.int .i64 33] wx fun e w' => ∃ v, e = .returned v ∧ Fresh wx.heap.size w' v (Lib.uvarint 33) ∧ Below wx.heap.size wx w' := fun wx => codeToVarint 33 (by decide) wx
  go_enter Tryz.func116, Tryz.ntmps116
  go_wp2_with (first
    | (go_at_call 171; refine (H171 _).mono ?_; rintro e w2 ⟨v, rfl, ⟨g, hg1, hg2, rfl, hg4⟩, hb⟩; obtain ⟨hc, hf⟩ := bcell hb; have hz : w.heap.size < w2.heap.size := (by have := hb.size; simp at this; omega))
    | (go_at_call 173; refine (tc173 _).mono ?_; rintro e w3 ⟨rfl, rfl⟩))
  refine bodyPost_ret (v := .agg #[.string ⟨#[100, 99, 99, 112]⟩, .int .i64 33, .slice (some ⟨g, 0, none⟩) (Lib.uvarint 33).length (Lib.uvarint 33).length, .int .i64 16, .bool false, tcF 201 202]) (by simp [results, Tryz.results116, go_sem, hc]) rfl ⟨_, rfl, ?_, ?_⟩
  · have hF : Fresh (w.heap.size + 1) w2 (.slice (some ⟨g, 0, none⟩) (Lib.uvarint 33).length (Lib.uvarint 33).length) (Lib.uvarint 33) := ⟨g, by simpa using hg1, hg2, rfl, hg4⟩
    exact hF.set6 _ _ _ _ _ _
  · exact below_set6 (below_under hb) _ _ _ _ _ _

theorem proto132 (w : World) : Calls Tryz.prog 120 #[] w fun e w' => ∃ vc, e = .returned (.agg #[.string ⟨#[115, 99, 116, 112]⟩, .int .i64 132, vc, .int .i64 16, .bool false, tcF 201 202]) ∧ Fresh w.heap.size w' vc (Lib.uvarint 132) ∧ Below w.heap.size w w' := by
  have H171 : ∀ wx, Calls Tryz.prog 171 #[.int .i64 132] wx fun e w' => ∃ v, e = .returned v ∧ Fresh wx.heap.size w' v (Lib.uvarint 132) ∧ Below wx.heap.size wx w' := fun wx => codeToVarint 132 (by decide) wx
  go_enter Tryz.func120, Tryz.ntmps120
  go_wp2_with (first
    | (go_at_call 171; refine (H171 _).mono ?_; rintro e w2 ⟨v, rfl, ⟨g, hg1, hg2, rfl, hg4⟩, hb⟩; obtain ⟨hc, hf⟩ := bcell hb; have hz : w.heap.size < w2.heap.size := (by have := hb.size; simp at this; omega))
    | (go_at_call 173; refine (tc173 _).mono ?_; rintro e w3 ⟨rfl, rfl⟩))
  refine bodyPost_ret (v := .agg #[.string ⟨#[115, 99, 116, 112]⟩, .int .i64 132, .slice (some ⟨g, 0, none⟩) (Lib.uvarint 132).length (Lib.uvarint 132).length, .int .i64 16, .bool false, tcF 201 202]) (by simp [results, Tryz.results120, go_sem, hc]) rfl ⟨_, rfl, ?_, ?_⟩
  · have hF : Fresh (w.heap.size + 1) w2 (.slice (some ⟨g, 0, none⟩) (Lib.uvarint 132).length (Lib.uvarint 132).length) (Lib.uvarint 132) := ⟨g, by simpa using hg1, hg2, rfl, hg4⟩
    exact hF.set6 _ _ _ _ _ _
  · exact below_set6 (below_under hb) _ _ _ _ _ _

theorem proto446 (w : World) : Calls Tryz.prog 124 #[] w fun e w' => ∃ vc, e = .returned (.agg #[.string ⟨#[103, 97, 114, 108, 105, 99, 54, 52]⟩, .int .i64 446, vc, .int .i64 (-1), .bool false, tcG 220 221 222]) ∧ Fresh w.heap.size w' vc (Lib.uvarint 446) ∧ Below w.heap.size w w' := by
  have H171 : ∀ wx, Calls Tryz.prog 171 #[.int .i64 446] wx fun e w' => ∃ v, e = .returned v ∧ Fresh wx.heap.size w' v (Lib.uvarint 446) ∧ Below wx.heap.size wx w' := fun wx => codeToVarint 446 (by decide) wx
  go_enter Tryz.func124, Tryz.ntmps124
  go_wp2_with (first
    | (go_at_call 171; refine (H171 _).mono ?_; rintro e w2 ⟨v, rfl, ⟨g, hg1, hg2, rfl, hg4⟩, hb⟩; obtain ⟨hc, hf⟩ := bcell hb; have hz : w.heap.size < w2.heap.size := (by have := hb.size; simp at this; omega))
    | (go_at_call 180; refine (tc180 _).mono ?_; rintro e w3 ⟨rfl, rfl⟩))
  refine bodyPost_ret (v := .agg #[.string ⟨#[103, 97, 114, 108, 105, 99, 54, 52]⟩, .int .i64 446, .slice (some ⟨g, 0, none⟩) (Lib.uvarint 446).length (Lib.uvarint 446).length, .int .i64 (-1), .bool false, tcG 220 221 222]) (by simp [results, Tryz.results124, go_sem, hc]) rfl ⟨_, rfl, ?_, ?_⟩
  · have hF : Fresh (w.heap.size + 1) w2 (.slice (some ⟨g, 0, none⟩) (Lib.uvarint 446).length (Lib.uvarint 446).length) (Lib.uvarint 446) := ⟨g, by simpa using hg1, hg2, rfl, hg4⟩
    exact hF.set6 _ _ _ _ _ _
  · exact below_set6 (below_under hb) _ _ _ _ _ _

theorem proto460 (w : World) : Calls Tryz.prog 128 #[] w fun e w' => ∃ vc, e = .returned (.agg #[.string ⟨#[113, 117, 105, 99]⟩, .int .i64 460, vc, .int .i64 0, .bool false, .nilIface]) ∧ Fresh w.heap.size w' vc (Lib.uvarint 460) ∧ Below w.heap.size w w' := by
  have H171 : ∀ wx, Calls Tryz.prog 171 #[.int .i64 460] wx fun e w' => ∃ v, e = .returned v ∧ Fresh wx.heap.size w' v (Lib.uvarint 460) ∧ Below wx.heap.size wx w' := fun wx => codeToVarint 460 (by decide) wx
  go_enter Tryz.func128, Tryz.ntmps128
  go_wp2_with (first
    | (go_at_call 171; refine (H171 _).mono ?_; rintro e w2 ⟨v, rfl, ⟨g, hg1, hg2, rfl, hg4⟩, hb⟩; obtain ⟨hc, hf⟩ := bcell hb; have hz : w.heap.size < w2.heap.size := (by have := hb.size; simp at this; omega)))
  refine bodyPost_ret (v := .agg #[.string ⟨#[113, 117, 105, 99]⟩, .int .i64 460, .slice (some ⟨g, 0, none⟩) (Lib.uvarint 460).length (Lib.uvarint 460).length, .int .i64 0, .bool false, .nilIface]) (by simp [results, Tryz.results128, go_sem, hc]) rfl ⟨_, rfl, ?_, ?_⟩
  · have hF : Fresh (w.heap.size + 1) w2 (.slice (some ⟨g, 0, none⟩) (Lib.uvarint 460).length (Lib.uvarint 460).length) (Lib.uvarint 460) := ⟨g, by simpa using hg1, hg2, rfl, hg4⟩
    exact hF.set6 _ _ _ _ _ _
  · exact below_set6 (below_under hb) _ _ _ _ _ _

theorem proto480 (w : World) : Calls Tryz.prog 132 #[] w fun e w' => ∃ vc, e = .returned (.agg #[.string ⟨#[104, 116, 116, 112]⟩, .int .i64 480, vc, .int .i64 0, .bool false, .nilIface]) ∧ Fresh w.heap.size w' vc (Lib.uvarint 480) ∧ Below w.heap.size w w' := by
  have H171 : ∀ wx, Calls Tryz.prog 171 #[.int .i64 480] wx fun e w' => ∃ v, e = .returned v ∧ Fresh wx.heap.size w' v (Lib.uvarint 480) ∧ Below wx.heap.size wx w' := fun wx => codeToVarint 480 (by decide) wx
  go_enter Tryz.func132, Tryz.ntmps132
  go_wp2_with (first
    | (go_at_call 171; refine (H171 _).mono ?_; rintro e w2 ⟨v, rfl, ⟨g, hg1, hg2, rfl, hg4⟩, hb⟩; obtain ⟨hc, hf⟩ := bcell hb; have hz : w.heap.size < w2.heap.size := (by have := hb.size; simp at this; omega)))
  refine bodyPost_ret (v := .agg #[.string ⟨#[104, 116, 116, 112]⟩, .int .i64 480, .slice (some ⟨g, 0, none⟩) (Lib.uvarint 480).length (Lib.uvarint 480).length, .int .i64 0, .bool false, .nilIface]) (by simp [results, Tryz.results132, go_sem, hc]) rfl ⟨_, rfl, ?_, ?_⟩
  · have hF : Fresh (w.heap.size + 1) w2 (.slice (some ⟨g, 0, none⟩) (Lib.uvarint 480).length (Lib.uvarint 480).length) (Lib.uvarint 480) := ⟨g, by simpa using hg1, hg2, rfl, hg4⟩
    exact hF.set6 _ _ _ _ _ _
  · exact below_set6 (below_under hb) _ _ _ _ _ _

theorem proto400 (w : World) : Calls Tryz.prog 136 #[] w fun e w' => ∃ vc, e = .returned (.agg #[.string ⟨#[117, 110, 105, 120]⟩, .int .i64 400, vc, .int .i64 (-1), .bool true, tcG 235 236 237]) ∧ Fresh w.heap.size w' vc (Lib.uvarint 400) ∧ Below w.heap.size w w' := by
  have H171 : ∀ wx, Calls Tryz.prog 171 #[.int .i64 400] wx fun e w' => ∃ v, e = .returned v ∧ Fresh wx.heap.size w' v (Lib.uvarint 400) ∧ Below wx.heap.size wx w' := fun wx => codeToVarint 400 (by decide) wx
  go_enter Tryz.func136, Tryz.ntmps136
  go_wp2_with (first
    | (go_at_call 171; refine (H171 _).mono ?_; rintro e w2 ⟨v, rfl, ⟨g, hg1, hg2, rfl, hg4⟩, hb⟩; obtain ⟨hc, hf⟩ := bcell hb; have hz : w.heap.size < w2.heap.size := (by have := hb.size; simp at this; omega))
    | (go_at_call 185; refine (tc185 _).mono ?_; rintro e w3 ⟨rfl, rfl⟩))
  refine bodyPost_ret (v := .agg #[.string ⟨#[117, 110, 105, 120]⟩, .int .i64 400, .slice (some ⟨g, 0, none⟩) (Lib.uvarint 400).length (Lib.uvarint 400).length, .int .i64 (-1), .bool true, tcG 235 236 237]) (by simp [results, Tryz.results136, go_sem, hc]) rfl ⟨_, rfl, ?_, ?_⟩
  · have hF : Fresh (w.heap.size + 1) w2 (.slice (some ⟨g, 0, none⟩) (Lib.uvarint 400).length (Lib.uvarint 400).length) (Lib.uvarint 400) := ⟨g, by simpa using hg1, hg2, rfl, hg4⟩
    exact hF.set6 _ _ _ _ _ _
  · exact below_set6 (below_under hb) _ _ _ _ _ _

theorem proto454 (w : World) : Calls Tryz.prog 140 #[] w fun e w' => ∃ vc, e = .returned (.agg #[.string ⟨#[110, 111, 105, 115, 101]⟩, .int .i64 454, vc, .int .i64 0, .bool false, .nilIface]) ∧ Fresh w.heap.size w' vc (Lib.uvarint 454) ∧ Below w.heap.size w w' := by
  have H171 : ∀ wx, Calls Tryz.prog 171 #[.int .i64 454] wx fun e w' => ∃ v, e = .returned v ∧ Fresh wx.heap.size w' v (Lib.uvarint 454) ∧ Below wx.heap.size wx w' := fun wx => codeToVarint 454 (by decide) wx
  go_enter Tryz.func140, Tryz.ntmps140
  go_wp2_with (first
    | (go_at_call 171; refine (H171 _).mono ?_; rintro e w2 ⟨v, rfl, ⟨g, hg1, hg2, rfl, hg4⟩, hb⟩; obtain ⟨hc, hf⟩ := bcell hb; have hz : w.heap.size < w2.heap.size := (by have := hb.size; simp at this; omega)))
  refine bodyPost_ret (v := .agg #[.string ⟨#[110, 111, 105, 115, 101]⟩, .int .i64 454, .slice (some ⟨g, 0, none⟩) (Lib.uvarint 454).length (Lib.uvarint 454).length, .int .i64 0, .bool false, .nilIface]) (by simp [results, Tryz.results140, go_sem, hc]) rfl ⟨_, rfl, ?_, ?_⟩
  · have hF : Fresh (w.heap.size + 1) w2 (.slice (some ⟨g, 0, none⟩) (Lib.uvarint 454).length (Lib.uvarint 454).length) (Lib.uvarint 454) := ⟨g, by simpa using hg1, hg2, rfl, hg4⟩
    exact hF.set6 _ _ _ _ _ _
  · exact below_set6 (below_under hb) _ _ _ _ _ _

theorem proto280 (w : World) : Calls Tryz.prog 144 #[] w fun e w' => ∃ vc, e = .returned (.agg #[.string ⟨#[119, 101, 98, 114, 116, 99, 45, 100, 105, 114, 101, 99, 116]⟩, .int .i64 280, vc, .int .i64 0, .bool false, .nilIface]) ∧ Fresh w.heap.size w' vc (Lib.uvarint 280) ∧ Below w.heap.size w w' := by
  have H171 : ∀ wx, Calls Tryz.prog 171 #[.int .i64 280] wx fun e w' => ∃ v, e = .returned v ∧ Fresh wx.heap.size w' v (Lib.uvarint 280) ∧ Below wx.heap.size wx w' := fun wx => codeToVarint 280 (by decide) wx
  go_enter Tryz.func144, Tryz.ntmps144
  go_wp2_with (first
    | (go_at_call 171; refine (H171 _).mono ?_; rintro e w2 ⟨v, rfl, ⟨g, hg1, hg2, rfl, hg4⟩, hb⟩; obtain ⟨hc, hf⟩ := bcell hb; have hz : w.heap.size < w2.heap.size := (by have := hb.size; simp at this; omega)))
  refine bodyPost_ret (v := .agg #[.string ⟨#[119, 101, 98, 114, 116, 99, 45, 100, 105, 114, 101, 99, 116]⟩, .int .i64 280, .slice (some ⟨g, 0, none⟩) (Lib.uvarint 280).length (Lib.uvarint 280).length, .int .i64 0, .bool false, .nilIface]) (by simp [results, Tryz.results144, go_sem, hc]) rfl ⟨_, rfl, ?_, ?_⟩
  · have hF : Fresh (w.heap.size + 1) w2 (.slice (some ⟨g, 0, none⟩) (Lib.uvarint 280).length (Lib.uvarint 280).length) (Lib.uvarint 280) := ⟨g, by simpa using hg1, hg2, rfl, hg4⟩
    exact hF.set6 _ _ _ _ _ _
  · exact below_set6 (below_under hb) _ _ _ _ _ _

end Go.Proofs.YtnpcmmjdojdmnaaGreatDoor
