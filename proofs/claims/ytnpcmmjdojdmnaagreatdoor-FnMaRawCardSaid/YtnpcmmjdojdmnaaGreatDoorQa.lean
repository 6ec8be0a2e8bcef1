/- The table of protocols, as plain data: codes, names, sizes; and which bytes are a simple value. No program stands here. spec.MaProtocol: what it answers at every code. -/
import Derived.Below
import Derived.Test.YtnpcmmjdojdmnaaGreatDoorProg
import Derived.WalkKit
import Derived.WalkSpells
import Derived.WalkLawsBesides
namespace Go.Proofs.YtnpcmmjdojdmnaaGreatDoor
open Go

/-- code, name, size in bits (-1: the length stands in front). -/
def tab : List (Int × List UInt8 × Int) := [
  (4, [105, 112, 52], 32),
  (6, [116, 99, 112], 16),
  (33, [100, 99, 99, 112], 16),
  (41, [105, 112, 54], 128),
  (42, [105, 112, 54, 122, 111, 110, 101], (-1)),
  (43, [105, 112, 99, 105, 100, 114], 8),
  (53, [100, 110, 115], (-1)),
  (54, [100, 110, 115, 52], (-1)),
  (55, [100, 110, 115, 54], (-1)),
  (56, [100, 110, 115, 97, 100, 100, 114], (-1)),
  (132, [115, 99, 116, 112], 16),
  (273, [117, 100, 112], 16),
  (276, [112, 50, 112, 45, 119, 101, 98, 114, 116, 99, 45, 100, 105, 114, 101, 99, 116], 0),
  (280, [119, 101, 98, 114, 116, 99, 45, 100, 105, 114, 101, 99, 116], 0),
  (281, [119, 101, 98, 114, 116, 99], 0),
  (290, [112, 50, 112, 45, 99, 105, 114, 99, 117, 105, 116], 0),
  (301, [117, 100, 116], 0),
  (302, [117, 116, 112], 0),
  (400, [117, 110, 105, 120], (-1)),
  (421, [112, 50, 112], (-1)),
  (443, [104, 116, 116, 112, 115], 0),
  (444, [111, 110, 105, 111, 110], 96),
  (445, [111, 110, 105, 111, 110, 51], 296),
  (446, [103, 97, 114, 108, 105, 99, 54, 52], (-1)),
  (447, [103, 97, 114, 108, 105, 99, 51, 50], (-1)),
  (448, [116, 108, 115], 0),
  (449, [115, 110, 105], (-1)),
  (454, [110, 111, 105, 115, 101], 0),
  (460, [113, 117, 105, 99], 0),
  (461, [113, 117, 105, 99, 45, 118, 49], 0),
  (465, [119, 101, 98, 116, 114, 97, 110, 115, 112, 111, 114, 116], 0),
  (466, [99, 101, 114, 116, 104, 97, 115, 104], (-1)),
  (477, [119, 115], 0),
  (478, [119, 115, 115], 0),
  (480, [104, 116, 116, 112], 0),
  (481, [104, 116, 116, 112, 45, 112, 97, 116, 104], (-1)),
  (777, [109, 101, 109, 111, 114, 121], 64),
  (7367777, [112, 108, 97, 105, 110, 116, 101, 120, 116, 118, 50], 0)]
def row? (c : Int) : Option (Int × List UInt8 × Int) := tab.find? (fun r => r.1 == c)
def known (c : Int) : Bool := (row? c).isSome
def pname (c : Int) : ByteArray := match row? c with | some r => ⟨r.2.1.toArray⟩ | none => ⟨#[]⟩
def psz (c : Int) : Int := match row? c with | some r => r.2.2 | none => 0
def pcode (c : Int) : Int := match row? c with | some r => r.1 | none => 0
def ppath (c : Int) : Bool := match row? c with | some r => r.1 == 400 | none => false
theorem known_cases (c : Int) : c = 4 ∨ c = 6 ∨ c = 33 ∨ c = 41 ∨ c = 42 ∨ c = 43 ∨ c = 53 ∨ c = 54 ∨ c = 55 ∨ c = 56 ∨ c = 132 ∨ c = 273 ∨ c = 276 ∨ c = 280 ∨ c = 281 ∨ c = 290 ∨ c = 301 ∨ c = 302 ∨ c = 400 ∨ c = 421 ∨ c = 443 ∨ c = 444 ∨ c = 445 ∨ c = 446 ∨ c = 447 ∨ c = 448 ∨ c = 449 ∨ c = 454 ∨ c = 460 ∨ c = 461 ∨ c = 465 ∨ c = 466 ∨ c = 477 ∨ c = 478 ∨ c = 480 ∨ c = 481 ∨ c = 777 ∨ c = 7367777 ∨ (c ≠ 4 ∧ c ≠ 6 ∧ c ≠ 33 ∧ c ≠ 41 ∧ c ≠ 42 ∧ c ≠ 43 ∧ c ≠ 53 ∧ c ≠ 54 ∧ c ≠ 55 ∧ c ≠ 56 ∧ c ≠ 132 ∧ c ≠ 273 ∧ c ≠ 276 ∧ c ≠ 280 ∧ c ≠ 281 ∧ c ≠ 290 ∧ c ≠ 301 ∧ c ≠ 302 ∧ c ≠ 400 ∧ c ≠ 421 ∧ c ≠ 443 ∧ c ≠ 444 ∧ c ≠ 445 ∧ c ≠ 446 ∧ c ≠ 447 ∧ c ≠ 448 ∧ c ≠ 449 ∧ c ≠ 454 ∧ c ≠ 460 ∧ c ≠ 461 ∧ c ≠ 465 ∧ c ≠ 466 ∧ c ≠ 477 ∧ c ≠ 478 ∧ c ≠ 480 ∧ c ≠ 481 ∧ c ≠ 777 ∧ c ≠ 7367777) := by omega
theorem row_none {c : Int} (h : c ≠ 4 ∧ c ≠ 6 ∧ c ≠ 33 ∧ c ≠ 41 ∧ c ≠ 42 ∧ c ≠ 43 ∧ c ≠ 53 ∧ c ≠ 54 ∧ c ≠ 55 ∧ c ≠ 56 ∧ c ≠ 132 ∧ c ≠ 273 ∧ c ≠ 276 ∧ c ≠ 280 ∧ c ≠ 281 ∧ c ≠ 290 ∧ c ≠ 301 ∧ c ≠ 302 ∧ c ≠ 400 ∧ c ≠ 421 ∧ c ≠ 443 ∧ c ≠ 444 ∧ c ≠ 445 ∧ c ≠ 446 ∧ c ≠ 447 ∧ c ≠ 448 ∧ c ≠ 449 ∧ c ≠ 454 ∧ c ≠ 460 ∧ c ≠ 461 ∧ c ≠ 465 ∧ c ≠ 466 ∧ c ≠ 477 ∧ c ≠ 478 ∧ c ≠ 480 ∧ c ≠ 481 ∧ c ≠ 777 ∧ c ≠ 7367777) : row? c = none := by
  simp only [row?, tab, List.find?_eq_none]
  intro r hr
  simp only [List.mem_cons, List.not_mem_nil, or_false] at hr
  rcases hr with rfl | rfl | rfl | rfl | rfl | rfl | rfl | rfl | rfl | rfl | rfl | rfl | rfl | rfl | rfl | rfl | rfl | rfl | rfl | rfl | rfl | rfl | rfl | rfl | rfl | rfl | rfl | rfl | rfl | rfl | rfl | rfl | rfl | rfl | rfl | rfl | rfl | rfl <;> simp <;> omega
end Go.Proofs.YtnpcmmjdojdmnaaGreatDoor
namespace Go.Proofs.YtnpcmmjdojdmnaaGreatDoor
open Go Go.RowKit

theorem maProtocol_4 (w : World) :
    Calls Tryz.prog 24 #[.int .i64 4] w fun e w' => e = .returned (.tuple #[.agg #[.string ⟨#[105, 112, 52]⟩, .int .i64 4, .int .i64 32, .bool false, .slice none 0 0], .bool true]) ∧ Below w.heap.size w w' := by
  go_enter Tryz.func24, Tryz.ntmps24
  go_wp2
  refine bodyPost_ret (v := .tuple #[.agg #[.string ⟨#[105, 112, 52]⟩, .int .i64 4, .int .i64 32, .bool false, .slice none 0 0], .bool true]) (by simp [results, Tryz.results24, go_sem]) rfl ⟨rfl, ?_⟩
  exact (Below.refl _ _).alloc (Nat.le_refl _) _

theorem maProtocol_6 (w : World) :
    Calls Tryz.prog 24 #[.int .i64 6] w fun e w' => e = .returned (.tuple #[.agg #[.string ⟨#[116, 99, 112]⟩, .int .i64 6, .int .i64 16, .bool false, .slice none 0 0], .bool true]) ∧ Below w.heap.size w w' := by
  go_enter Tryz.func24, Tryz.ntmps24
  go_wp2
  refine bodyPost_ret (v := .tuple #[.agg #[.string ⟨#[116, 99, 112]⟩, .int .i64 6, .int .i64 16, .bool false, .slice none 0 0], .bool true]) (by simp [results, Tryz.results24, go_sem]) rfl ⟨rfl, ?_⟩
  exact (Below.refl _ _).alloc (Nat.le_refl _) _

theorem maProtocol_33 (w : World) :
    Calls Tryz.prog 24 #[.int .i64 33] w fun e w' => e = .returned (.tuple #[.agg #[.string ⟨#[100, 99, 99, 112]⟩, .int .i64 33, .int .i64 16, .bool false, .slice none 0 0], .bool true]) ∧ Below w.heap.size w w' := by
  go_enter Tryz.func24, Tryz.ntmps24
  go_wp2
  refine bodyPost_ret (v := .tuple #[.agg #[.string ⟨#[100, 99, 99, 112]⟩, .int .i64 33, .int .i64 16, .bool false, .slice none 0 0], .bool true]) (by simp [results, Tryz.results24, go_sem]) rfl ⟨rfl, ?_⟩
  exact (Below.refl _ _).alloc (Nat.le_refl _) _

theorem maProtocol_41 (w : World) :
    Calls Tryz.prog 24 #[.int .i64 41] w fun e w' => e = .returned (.tuple #[.agg #[.string ⟨#[105, 112, 54]⟩, .int .i64 41, .int .i64 128, .bool false, .slice none 0 0], .bool true]) ∧ Below w.heap.size w w' := by
  go_enter Tryz.func24, Tryz.ntmps24
  go_wp2
  refine bodyPost_ret (v := .tuple #[.agg #[.string ⟨#[105, 112, 54]⟩, .int .i64 41, .int .i64 128, .bool false, .slice none 0 0], .bool true]) (by simp [results, Tryz.results24, go_sem]) rfl ⟨rfl, ?_⟩
  exact (Below.refl _ _).alloc (Nat.le_refl _) _

theorem maProtocol_42 (w : World) :
    Calls Tryz.prog 24 #[.int .i64 42] w fun e w' => e = .returned (.tuple #[.agg #[.string ⟨#[105, 112, 54, 122, 111, 110, 101]⟩, .int .i64 42, .int .i64 (-1), .bool false, .slice none 0 0], .bool true]) ∧ Below w.heap.size w w' := by
  go_enter Tryz.func24, Tryz.ntmps24
  go_wp2
  refine bodyPost_ret (v := .tuple #[.agg #[.string ⟨#[105, 112, 54, 122, 111, 110, 101]⟩, .int .i64 42, .int .i64 (-1), .bool false, .slice none 0 0], .bool true]) (by simp [results, Tryz.results24, go_sem]) rfl ⟨rfl, ?_⟩
  exact (Below.refl _ _).alloc (Nat.le_refl _) _

theorem maProtocol_43 (w : World) :
    Calls Tryz.prog 24 #[.int .i64 43] w fun e w' => e = .returned (.tuple #[.agg #[.string ⟨#[105, 112, 99, 105, 100, 114]⟩, .int .i64 43, .int .i64 8, .bool false, .slice none 0 0], .bool true]) ∧ Below w.heap.size w w' := by
  go_enter Tryz.func24, Tryz.ntmps24
  go_wp2
  refine bodyPost_ret (v := .tuple #[.agg #[.string ⟨#[105, 112, 99, 105, 100, 114]⟩, .int .i64 43, .int .i64 8, .bool false, .slice none 0 0], .bool true]) (by simp [results, Tryz.results24, go_sem]) rfl ⟨rfl, ?_⟩
  exact (Below.refl _ _).alloc (Nat.le_refl _) _

theorem maProtocol_53 (w : World) :
    Calls Tryz.prog 24 #[.int .i64 53] w fun e w' => e = .returned (.tuple #[.agg #[.string ⟨#[100, 110, 115]⟩, .int .i64 53, .int .i64 (-1), .bool false, .slice none 0 0], .bool true]) ∧ Below w.heap.size w w' := by
  go_enter Tryz.func24, Tryz.ntmps24
  go_wp2
  refine bodyPost_ret (v := .tuple #[.agg #[.string ⟨#[100, 110, 115]⟩, .int .i64 53, .int .i64 (-1), .bool false, .slice none 0 0], .bool true]) (by simp [results, Tryz.results24, go_sem]) rfl ⟨rfl, ?_⟩
  exact (Below.refl _ _).alloc (Nat.le_refl _) _

theorem maProtocol_54 (w : World) :
    Calls Tryz.prog 24 #[.int .i64 54] w fun e w' => e = .returned (.tuple #[.agg #[.string ⟨#[100, 110, 115, 52]⟩, .int .i64 54, .int .i64 (-1), .bool false, .slice none 0 0], .bool true]) ∧ Below w.heap.size w w' := by
  go_enter Tryz.func24, Tryz.ntmps24
  go_wp2
  refine bodyPost_ret (v := .tuple #[.agg #[.string ⟨#[100, 110, 115, 52]⟩, .int .i64 54, .int .i64 (-1), .bool false, .slice none 0 0], .bool true]) (by simp [results, Tryz.results24, go_sem]) rfl ⟨rfl, ?_⟩
  exact (Below.refl _ _).alloc (Nat.le_refl _) _

theorem maProtocol_55 (w : World) :
    Calls Tryz.prog 24 #[.int .i64 55] w fun e w' => e = .returned (.tuple #[.agg #[.string ⟨#[100, 110, 115, 54]⟩, .int .i64 55, .int .i64 (-1), .bool false, .slice none 0 0], .bool true]) ∧ Below w.heap.size w w' := by
  go_enter Tryz.func24, Tryz.ntmps24
  go_wp2
  refine bodyPost_ret (v := .tuple #[.agg #[.string ⟨#[100, 110, 115, 54]⟩, .int .i64 55, .int .i64 (-1), .bool false, .slice none 0 0], .bool true]) (by simp [results, Tryz.results24, go_sem]) rfl ⟨rfl, ?_⟩
  exact (Below.refl _ _).alloc (Nat.le_refl _) _

theorem maProtocol_56 (w : World) :
    Calls Tryz.prog 24 #[.int .i64 56] w fun e w' => e = .returned (.tuple #[.agg #[.string ⟨#[100, 110, 115, 97, 100, 100, 114]⟩, .int .i64 56, .int .i64 (-1), .bool false, .slice none 0 0], .bool true]) ∧ Below w.heap.size w w' := by
  go_enter Tryz.func24, Tryz.ntmps24
  go_wp2
  refine bodyPost_ret (v := .tuple #[.agg #[.string ⟨#[100, 110, 115, 97, 100, 100, 114]⟩, .int .i64 56, .int .i64 (-1), .bool false, .slice none 0 0], .bool true]) (by simp [results, Tryz.results24, go_sem]) rfl ⟨rfl, ?_⟩
  exact (Below.refl _ _).alloc (Nat.le_refl _) _

theorem maProtocol_132 (w : World) :
    Calls Tryz.prog 24 #[.int .i64 132] w fun e w' => e = .returned (.tuple #[.agg #[.string ⟨#[115, 99, 116, 112]⟩, .int .i64 132, .int .i64 16, .bool false, .slice none 0 0], .bool true]) ∧ Below w.heap.size w w' := by
  go_enter Tryz.func24, Tryz.ntmps24
  go_wp2
  refine bodyPost_ret (v := .tuple #[.agg #[.string ⟨#[115, 99, 116, 112]⟩, .int .i64 132, .int .i64 16, .bool false, .slice none 0 0], .bool true]) (by simp [results, Tryz.results24, go_sem]) rfl ⟨rfl, ?_⟩
  exact (Below.refl _ _).alloc (Nat.le_refl _) _

theorem maProtocol_273 (w : World) :
    Calls Tryz.prog 24 #[.int .i64 273] w fun e w' => e = .returned (.tuple #[.agg #[.string ⟨#[117, 100, 112]⟩, .int .i64 273, .int .i64 16, .bool false, .slice none 0 0], .bool true]) ∧ Below w.heap.size w w' := by
  go_enter Tryz.func24, Tryz.ntmps24
  go_wp2
  refine bodyPost_ret (v := .tuple #[.agg #[.string ⟨#[117, 100, 112]⟩, .int .i64 273, .int .i64 16, .bool false, .slice none 0 0], .bool true]) (by simp [results, Tryz.results24, go_sem]) rfl ⟨rfl, ?_⟩
  exact (Below.refl _ _).alloc (Nat.le_refl _) _

theorem maProtocol_276 (w : World) :
    Calls Tryz.prog 24 #[.int .i64 276] w fun e w' => e = .returned (.tuple #[.agg #[.string ⟨#[112, 50, 112, 45, 119, 101, 98, 114, 116, 99, 45, 100, 105, 114, 101, 99, 116]⟩, .int .i64 276, .int .i64 0, .bool false, .slice none 0 0], .bool true]) ∧ Below w.heap.size w w' := by
  go_enter Tryz.func24, Tryz.ntmps24
  go_wp2
  refine bodyPost_ret (v := .tuple #[.agg #[.string ⟨#[112, 50, 112, 45, 119, 101, 98, 114, 116, 99, 45, 100, 105, 114, 101, 99, 116]⟩, .int .i64 276, .int .i64 0, .bool false, .slice none 0 0], .bool true]) (by simp [results, Tryz.results24, go_sem]) rfl ⟨rfl, ?_⟩
  exact (Below.refl _ _).alloc (Nat.le_refl _) _

theorem maProtocol_280 (w : World) :
    Calls Tryz.prog 24 #[.int .i64 280] w fun e w' => e = .returned (.tuple #[.agg #[.string ⟨#[119, 101, 98, 114, 116, 99, 45, 100, 105, 114, 101, 99, 116]⟩, .int .i64 280, .int .i64 0, .bool false, .slice none 0 0], .bool true]) ∧ Below w.heap.size w w' := by
  go_enter Tryz.func24, Tryz.ntmps24
  go_wp2
  refine bodyPost_ret (v := .tuple #[.agg #[.string ⟨#[119, 101, 98, 114, 116, 99, 45, 100, 105, 114, 101, 99, 116]⟩, .int .i64 280, .int .i64 0, .bool false, .slice none 0 0], .bool true]) (by simp [results, Tryz.results24, go_sem]) rfl ⟨rfl, ?_⟩
  exact (Below.refl _ _).alloc (Nat.le_refl _) _

theorem maProtocol_281 (w : World) :
    Calls Tryz.prog 24 #[.int .i64 281] w fun e w' => e = .returned (.tuple #[.agg #[.string ⟨#[119, 101, 98, 114, 116, 99]⟩, .int .i64 281, .int .i64 0, .bool false, .slice none 0 0], .bool true]) ∧ Below w.heap.size w w' := by
  go_enter Tryz.func24, Tryz.ntmps24
  go_wp2
  refine bodyPost_ret (v := .tuple #[.agg #[.string ⟨#[119, 101, 98, 114, 116, 99]⟩, .int .i64 281, .int .i64 0, .bool false, .slice none 0 0], .bool true]) (by simp [results, Tryz.results24, go_sem]) rfl ⟨rfl, ?_⟩
  exact (Below.refl _ _).alloc (Nat.le_refl _) _

theorem maProtocol_290 (w : World) :
    Calls Tryz.prog 24 #[.int .i64 290] w fun e w' => e = .returned (.tuple #[.agg #[.string ⟨#[112, 50, 112, 45, 99, 105, 114, 99, 117, 105, 116]⟩, .int .i64 290, .int .i64 0, .bool false, .slice none 0 0], .bool true]) ∧ Below w.heap.size w w' := by
  go_enter Tryz.func24, Tryz.ntmps24
  go_wp2
  refine bodyPost_ret (v := .tuple #[.agg #[.string ⟨#[112, 50, 112, 45, 99, 105, 114, 99, 117, 105, 116]⟩, .int .i64 290, .int .i64 0, .bool false, .slice none 0 0], .bool true]) (by simp [results, Tryz.results24, go_sem]) rfl ⟨rfl, ?_⟩
  exact (Below.refl _ _).alloc (Nat.le_refl _) _

theorem maProtocol_301 (w : World) :
    Calls Tryz.prog 24 #[.int .i64 301] w fun e w' => e = .returned (.tuple #[.agg #[.string ⟨#[117, 100, 116]⟩, .int .i64 301, .int .i64 0, .bool false, .slice none 0 0], .bool true]) ∧ Below w.heap.size w w' := by
  go_enter Tryz.func24, Tryz.ntmps24
  go_wp2
  refine bodyPost_ret (v := .tuple #[.agg #[.string ⟨#[117, 100, 116]⟩, .int .i64 301, .int .i64 0, .bool false, .slice none 0 0], .bool true]) (by simp [results, Tryz.results24, go_sem]) rfl ⟨rfl, ?_⟩
  exact (Below.refl _ _).alloc (Nat.le_refl _) _

theorem maProtocol_302 (w : World) :
    Calls Tryz.prog 24 #[.int .i64 302] w fun e w' => e = .returned (.tuple #[.agg #[.string ⟨#[117, 116, 112]⟩, .int .i64 302, .int .i64 0, .bool false, .slice none 0 0], .bool true]) ∧ Below w.heap.size w w' := by
  go_enter Tryz.func24, Tryz.ntmps24
  go_wp2
  refine bodyPost_ret (v := .tuple #[.agg #[.string ⟨#[117, 116, 112]⟩, .int .i64 302, .int .i64 0, .bool false, .slice none 0 0], .bool true]) (by simp [results, Tryz.results24, go_sem]) rfl ⟨rfl, ?_⟩
  exact (Below.refl _ _).alloc (Nat.le_refl _) _

theorem maProtocol_400 (w : World) :
    Calls Tryz.prog 24 #[.int .i64 400] w fun e w' => e = .returned (.tuple #[.agg #[.string ⟨#[117, 110, 105, 120]⟩, .int .i64 400, .int .i64 (-1), .bool true, .slice none 0 0], .bool true]) ∧ Below w.heap.size w w' := by
  go_enter Tryz.func24, Tryz.ntmps24
  go_wp2
  refine bodyPost_ret (v := .tuple #[.agg #[.string ⟨#[117, 110, 105, 120]⟩, .int .i64 400, .int .i64 (-1), .bool true, .slice none 0 0], .bool true]) (by simp [results, Tryz.results24, go_sem]) rfl ⟨rfl, ?_⟩
  exact (Below.refl _ _).alloc (Nat.le_refl _) _

theorem maProtocol_421 (w : World) :
    Calls Tryz.prog 24 #[.int .i64 421] w fun e w' => e = .returned (.tuple #[.agg #[.string ⟨#[112, 50, 112]⟩, .int .i64 421, .int .i64 (-1), .bool false, .slice none 0 0], .bool true]) ∧ Below w.heap.size w w' := by
  go_enter Tryz.func24, Tryz.ntmps24
  go_wp2
  refine bodyPost_ret (v := .tuple #[.agg #[.string ⟨#[112, 50, 112]⟩, .int .i64 421, .int .i64 (-1), .bool false, .slice none 0 0], .bool true]) (by simp [results, Tryz.results24, go_sem]) rfl ⟨rfl, ?_⟩
  exact (Below.refl _ _).alloc (Nat.le_refl _) _

theorem maProtocol_443 (w : World) :
    Calls Tryz.prog 24 #[.int .i64 443] w fun e w' => e = .returned (.tuple #[.agg #[.string ⟨#[104, 116, 116, 112, 115]⟩, .int .i64 443, .int .i64 0, .bool false, .slice none 0 0], .bool true]) ∧ Below w.heap.size w w' := by
  go_enter Tryz.func24, Tryz.ntmps24
  go_wp2
  refine bodyPost_ret (v := .tuple #[.agg #[.string ⟨#[104, 116, 116, 112, 115]⟩, .int .i64 443, .int .i64 0, .bool false, .slice none 0 0], .bool true]) (by simp [results, Tryz.results24, go_sem]) rfl ⟨rfl, ?_⟩
  exact (Below.refl _ _).alloc (Nat.le_refl _) _

theorem maProtocol_444 (w : World) :
    Calls Tryz.prog 24 #[.int .i64 444] w fun e w' => e = .returned (.tuple #[.agg #[.string ⟨#[111, 110, 105, 111, 110]⟩, .int .i64 444, .int .i64 96, .bool false, .slice none 0 0], .bool true]) ∧ Below w.heap.size w w' := by
  go_enter Tryz.func24, Tryz.ntmps24
  go_wp2
  refine bodyPost_ret (v := .tuple #[.agg #[.string ⟨#[111, 110, 105, 111, 110]⟩, .int .i64 444, .int .i64 96, .bool false, .slice none 0 0], .bool true]) (by simp [results, Tryz.results24, go_sem]) rfl ⟨rfl, ?_⟩
  exact (Below.refl _ _).alloc (Nat.le_refl _) _

theorem maProtocol_445 (w : World) :
    Calls Tryz.prog 24 #[.int .i64 445] w fun e w' => e = .returned (.tuple #[.agg #[.string ⟨#[111, 110, 105, 111, 110, 51]⟩, .int .i64 445, .int .i64 296, .bool false, .slice none 0 0], .bool true]) ∧ Below w.heap.size w w' := by
  go_enter Tryz.func24, Tryz.ntmps24
  go_wp2
  refine bodyPost_ret (v := .tuple #[.agg #[.string ⟨#[111, 110, 105, 111, 110, 51]⟩, .int .i64 445, .int .i64 296, .bool false, .slice none 0 0], .bool true]) (by simp [results, Tryz.results24, go_sem]) rfl ⟨rfl, ?_⟩
  exact (Below.refl _ _).alloc (Nat.le_refl _) _

theorem maProtocol_446 (w : World) :
    Calls Tryz.prog 24 #[.int .i64 446] w fun e w' => e = .returned (.tuple #[.agg #[.string ⟨#[103, 97, 114, 108, 105, 99, 54, 52]⟩, .int .i64 446, .int .i64 (-1), .bool false, .slice none 0 0], .bool true]) ∧ Below w.heap.size w w' := by
  go_enter Tryz.func24, Tryz.ntmps24
  go_wp2
  refine bodyPost_ret (v := .tuple #[.agg #[.string ⟨#[103, 97, 114, 108, 105, 99, 54, 52]⟩, .int .i64 446, .int .i64 (-1), .bool false, .slice none 0 0], .bool true]) (by simp [results, Tryz.results24, go_sem]) rfl ⟨rfl, ?_⟩
  exact (Below.refl _ _).alloc (Nat.le_refl _) _

theorem maProtocol_447 (w : World) :
    Calls Tryz.prog 24 #[.int .i64 447] w fun e w' => e = .returned (.tuple #[.agg #[.string ⟨#[103, 97, 114, 108, 105, 99, 51, 50]⟩, .int .i64 447, .int .i64 (-1), .bool false, .slice none 0 0], .bool true]) ∧ Below w.heap.size w w' := by
  go_enter Tryz.func24, Tryz.ntmps24
  go_wp2
  refine bodyPost_ret (v := .tuple #[.agg #[.string ⟨#[103, 97, 114, 108, 105, 99, 51, 50]⟩, .int .i64 447, .int .i64 (-1), .bool false, .slice none 0 0], .bool true]) (by simp [results, Tryz.results24, go_sem]) rfl ⟨rfl, ?_⟩
  exact (Below.refl _ _).alloc (Nat.le_refl _) _

theorem maProtocol_448 (w : World) :
    Calls Tryz.prog 24 #[.int .i64 448] w fun e w' => e = .returned (.tuple #[.agg #[.string ⟨#[116, 108, 115]⟩, .int .i64 448, .int .i64 0, .bool false, .slice none 0 0], .bool true]) ∧ Below w.heap.size w w' := by
  go_enter Tryz.func24, Tryz.ntmps24
  go_wp2
  refine bodyPost_ret (v := .tuple #[.agg #[.string ⟨#[116, 108, 115]⟩, .int .i64 448, .int .i64 0, .bool false, .slice none 0 0], .bool true]) (by simp [results, Tryz.results24, go_sem]) rfl ⟨rfl, ?_⟩
  exact (Below.refl _ _).alloc (Nat.le_refl _) _

theorem maProtocol_449 (w : World) :
    Calls Tryz.prog 24 #[.int .i64 449] w fun e w' => e = .returned (.tuple #[.agg #[.string ⟨#[115, 110, 105]⟩, .int .i64 449, .int .i64 (-1), .bool false, .slice none 0 0], .bool true]) ∧ Below w.heap.size w w' := by
  go_enter Tryz.func24, Tryz.ntmps24
  go_wp2
  refine bodyPost_ret (v := .tuple #[.agg #[.string ⟨#[115, 110, 105]⟩, .int .i64 449, .int .i64 (-1), .bool false, .slice none 0 0], .bool true]) (by simp [results, Tryz.results24, go_sem]) rfl ⟨rfl, ?_⟩
  exact (Below.refl _ _).alloc (Nat.le_refl _) _

theorem maProtocol_454 (w : World) :
    Calls Tryz.prog 24 #[.int .i64 454] w fun e w' => e = .returned (.tuple #[.agg #[.string ⟨#[110, 111, 105, 115, 101]⟩, .int .i64 454, .int .i64 0, .bool false, .slice none 0 0], .bool true]) ∧ Below w.heap.size w w' := by
  go_enter Tryz.func24, Tryz.ntmps24
  go_wp2
  refine bodyPost_ret (v := .tuple #[.agg #[.string ⟨#[110, 111, 105, 115, 101]⟩, .int .i64 454, .int .i64 0, .bool false, .slice none 0 0], .bool true]) (by simp [results, Tryz.results24, go_sem]) rfl ⟨rfl, ?_⟩
  exact (Below.refl _ _).alloc (Nat.le_refl _) _

theorem maProtocol_460 (w : World) :
    Calls Tryz.prog 24 #[.int .i64 460] w fun e w' => e = .returned (.tuple #[.agg #[.string ⟨#[113, 117, 105, 99]⟩, .int .i64 460, .int .i64 0, .bool false, .slice none 0 0], .bool true]) ∧ Below w.heap.size w w' := by
  go_enter Tryz.func24, Tryz.ntmps24
  go_wp2
  refine bodyPost_ret (v := .tuple #[.agg #[.string ⟨#[113, 117, 105, 99]⟩, .int .i64 460, .int .i64 0, .bool false, .slice none 0 0], .bool true]) (by simp [results, Tryz.results24, go_sem]) rfl ⟨rfl, ?_⟩
  exact (Below.refl _ _).alloc (Nat.le_refl _) _

theorem maProtocol_461 (w : World) :
    Calls Tryz.prog 24 #[.int .i64 461] w fun e w' => e = .returned (.tuple #[.agg #[.string ⟨#[113, 117, 105, 99, 45, 118, 49]⟩, .int .i64 461, .int .i64 0, .bool false, .slice none 0 0], .bool true]) ∧ Below w.heap.size w w' := by
  go_enter Tryz.func24, Tryz.ntmps24
  go_wp2
  refine bodyPost_ret (v := .tuple #[.agg #[.string ⟨#[113, 117, 105, 99, 45, 118, 49]⟩, .int .i64 461, .int .i64 0, .bool false, .slice none 0 0], .bool true]) (by simp [results, Tryz.results24, go_sem]) rfl ⟨rfl, ?_⟩
  exact (Below.refl _ _).alloc (Nat.le_refl _) _

theorem maProtocol_465 (w : World) :
    Calls Tryz.prog 24 #[.int .i64 465] w fun e w' => e = .returned (.tuple #[.agg #[.string ⟨#[119, 101, 98, 116, 114, 97, 110, 115, 112, 111, 114, 116]⟩, .int .i64 465, .int .i64 0, .bool false, .slice none 0 0], .bool true]) ∧ Below w.heap.size w w' := by
  go_enter Tryz.func24, Tryz.ntmps24
  go_wp2
  refine bodyPost_ret (v := .tuple #[.agg #[.string ⟨#[119, 101, 98, 116, 114, 97, 110, 115, 112, 111, 114, 116]⟩, .int .i64 465, .int .i64 0, .bool false, .slice none 0 0], .bool true]) (by simp [results, Tryz.results24, go_sem]) rfl ⟨rfl, ?_⟩
  exact (Below.refl _ _).alloc (Nat.le_refl _) _

theorem maProtocol_466 (w : World) :
    Calls Tryz.prog 24 #[.int .i64 466] w fun e w' => e = .returned (.tuple #[.agg #[.string ⟨#[99, 101, 114, 116, 104, 97, 115, 104]⟩, .int .i64 466, .int .i64 (-1), .bool false, .slice none 0 0], .bool true]) ∧ Below w.heap.size w w' := by
  go_enter Tryz.func24, Tryz.ntmps24
  go_wp2
  refine bodyPost_ret (v := .tuple #[.agg #[.string ⟨#[99, 101, 114, 116, 104, 97, 115, 104]⟩, .int .i64 466, .int .i64 (-1), .bool false, .slice none 0 0], .bool true]) (by simp [results, Tryz.results24, go_sem]) rfl ⟨rfl, ?_⟩
  exact (Below.refl _ _).alloc (Nat.le_refl _) _

theorem maProtocol_477 (w : World) :
    Calls Tryz.prog 24 #[.int .i64 477] w fun e w' => e = .returned (.tuple #[.agg #[.string ⟨#[119, 115]⟩, .int .i64 477, .int .i64 0, .bool false, .slice none 0 0], .bool true]) ∧ Below w.heap.size w w' := by
  go_enter Tryz.func24, Tryz.ntmps24
  go_wp2
  refine bodyPost_ret (v := .tuple #[.agg #[.string ⟨#[119, 115]⟩, .int .i64 477, .int .i64 0, .bool false, .slice none 0 0], .bool true]) (by simp [results, Tryz.results24, go_sem]) rfl ⟨rfl, ?_⟩
  exact (Below.refl _ _).alloc (Nat.le_refl _) _

theorem maProtocol_478 (w : World) :
    Calls Tryz.prog 24 #[.int .i64 478] w fun e w' => e = .returned (.tuple #[.agg #[.string ⟨#[119, 115, 115]⟩, .int .i64 478, .int .i64 0, .bool false, .slice none 0 0], .bool true]) ∧ Below w.heap.size w w' := by
  go_enter Tryz.func24, Tryz.ntmps24
  go_wp2
  refine bodyPost_ret (v := .tuple #[.agg #[.string ⟨#[119, 115, 115]⟩, .int .i64 478, .int .i64 0, .bool false, .slice none 0 0], .bool true]) (by simp [results, Tryz.results24, go_sem]) rfl ⟨rfl, ?_⟩
  exact (Below.refl _ _).alloc (Nat.le_refl _) _

theorem maProtocol_480 (w : World) :
    Calls Tryz.prog 24 #[.int .i64 480] w fun e w' => e = .returned (.tuple #[.agg #[.string ⟨#[104, 116, 116, 112]⟩, .int .i64 480, .int .i64 0, .bool false, .slice none 0 0], .bool true]) ∧ Below w.heap.size w w' := by
  go_enter Tryz.func24, Tryz.ntmps24
  go_wp2
  refine bodyPost_ret (v := .tuple #[.agg #[.string ⟨#[104, 116, 116, 112]⟩, .int .i64 480, .int .i64 0, .bool false, .slice none 0 0], .bool true]) (by simp [results, Tryz.results24, go_sem]) rfl ⟨rfl, ?_⟩
  exact (Below.refl _ _).alloc (Nat.le_refl _) _

theorem maProtocol_481 (w : World) :
    Calls Tryz.prog 24 #[.int .i64 481] w fun e w' => e = .returned (.tuple #[.agg #[.string ⟨#[104, 116, 116, 112, 45, 112, 97, 116, 104]⟩, .int .i64 481, .int .i64 (-1), .bool false, .slice none 0 0], .bool true]) ∧ Below w.heap.size w w' := by
  go_enter Tryz.func24, Tryz.ntmps24
  go_wp2
  refine bodyPost_ret (v := .tuple #[.agg #[.string ⟨#[104, 116, 116, 112, 45, 112, 97, 116, 104]⟩, .int .i64 481, .int .i64 (-1), .bool false, .slice none 0 0], .bool true]) (by simp [results, Tryz.results24, go_sem]) rfl ⟨rfl, ?_⟩
  exact (Below.refl _ _).alloc (Nat.le_refl _) _

theorem maProtocol_777 (w : World) :
    Calls Tryz.prog 24 #[.int .i64 777] w fun e w' => e = .returned (.tuple #[.agg #[.string ⟨#[109, 101, 109, 111, 114, 121]⟩, .int .i64 777, .int .i64 64, .bool false, .slice none 0 0], .bool true]) ∧ Below w.heap.size w w' := by
  go_enter Tryz.func24, Tryz.ntmps24
  go_wp2
  refine bodyPost_ret (v := .tuple #[.agg #[.string ⟨#[109, 101, 109, 111, 114, 121]⟩, .int .i64 777, .int .i64 64, .bool false, .slice none 0 0], .bool true]) (by simp [results, Tryz.results24, go_sem]) rfl ⟨rfl, ?_⟩
  exact (Below.refl _ _).alloc (Nat.le_refl _) _

theorem maProtocol_7367777 (w : World) :
    Calls Tryz.prog 24 #[.int .i64 7367777] w fun e w' => e = .returned (.tuple #[.agg #[.string ⟨#[112, 108, 97, 105, 110, 116, 101, 120, 116, 118, 50]⟩, .int .i64 7367777, .int .i64 0, .bool false, .slice none 0 0], .bool true]) ∧ Below w.heap.size w w' := by
  go_enter Tryz.func24, Tryz.ntmps24
  go_wp2
  refine bodyPost_ret (v := .tuple #[.agg #[.string ⟨#[112, 108, 97, 105, 110, 116, 101, 120, 116, 118, 50]⟩, .int .i64 7367777, .int .i64 0, .bool false, .slice none 0 0], .bool true]) (by simp [results, Tryz.results24, go_sem]) rfl ⟨rfl, ?_⟩
  exact (Below.refl _ _).alloc (Nat.le_refl _) _

theorem maProtocol_none (c : Int) (w : World) (h4 : (c == 4) = false) (h6 : (c == 6) = false) (h33 : (c == 33) = false) (h41 : (c == 41) = false) (h42 : (c == 42) = false) (h43 : (c == 43) = false) (h53 : (c == 53) = false) (h54 : (c == 54) = false) (h55 : (c == 55) = false) (h56 : (c == 56) = false) (h132 : (c == 132) = false) (h273 : (c == 273) = false) (h276 : (c == 276) = false) (h280 : (c == 280) = false) (h281 : (c == 281) = false) (h290 : (c == 290) = false) (h301 : (c == 301) = false) (h302 : (c == 302) = false) (h400 : (c == 400) = false) (h421 : (c == 421) = false) (h443 : (c == 443) = false) (h444 : (c == 444) = false) (h445 : (c == 445) = false) (h446 : (c == 446) = false) (h447 : (c == 447) = false) (h448 : (c == 448) = false) (h449 : (c == 449) = false) (h454 : (c == 454) = false) (h460 : (c == 460) = false) (h461 : (c == 461) = false) (h465 : (c == 465) = false) (h466 : (c == 466) = false) (h477 : (c == 477) = false) (h478 : (c == 478) = false) (h480 : (c == 480) = false) (h481 : (c == 481) = false) (h777 : (c == 777) = false) (h7367777 : (c == 7367777) = false) :
    Calls Tryz.prog 24 #[.int .i64 c] w fun e w' => e = .returned (.tuple #[.agg #[.string ⟨#[]⟩, .int .i64 0, .int .i64 0, .bool false, .slice none 0 0], .bool false]) ∧ Below w.heap.size w w' := by
  go_enter Tryz.func24, Tryz.ntmps24
  go_wp2
  refine bodyPost_ret (v := .tuple #[.agg #[.string ⟨#[]⟩, .int .i64 0, .int .i64 0, .bool false, .slice none 0 0], .bool false]) (by simp [results, Tryz.results24, go_sem]) rfl ⟨rfl, ?_⟩
  exact (Below.refl _ _).alloc (Nat.le_refl _) _

theorem maProtocol (c : Int) (w : World) :
    Calls Tryz.prog 24 #[.int .i64 c] w fun e w' => e = .returned (.tuple #[.agg #[.string (pname c), .int .i64 (pcode c), .int .i64 (psz c), .bool (ppath c), .slice none 0 0], .bool (known c)]) ∧ Below w.heap.size w w' := by
  rcases known_cases c with rfl | rfl | rfl | rfl | rfl | rfl | rfl | rfl | rfl | rfl | rfl | rfl | rfl | rfl | rfl | rfl | rfl | rfl | rfl | rfl | rfl | rfl | rfl | rfl | rfl | rfl | rfl | rfl | rfl | rfl | rfl | rfl | rfl | rfl | rfl | rfl | rfl | rfl | h
  · exact maProtocol_4 w
  · exact maProtocol_6 w
  · exact maProtocol_33 w
  · exact maProtocol_41 w
  · exact maProtocol_42 w
  · exact maProtocol_43 w
  · exact maProtocol_53 w
  · exact maProtocol_54 w
  · exact maProtocol_55 w
  · exact maProtocol_56 w
  · exact maProtocol_132 w
  · exact maProtocol_273 w
  · exact maProtocol_276 w
  · exact maProtocol_280 w
  · exact maProtocol_281 w
  · exact maProtocol_290 w
  · exact maProtocol_301 w
  · exact maProtocol_302 w
  · exact maProtocol_400 w
  · exact maProtocol_421 w
  · exact maProtocol_443 w
  · exact maProtocol_444 w
  · exact maProtocol_445 w
  · exact maProtocol_446 w
  · exact maProtocol_447 w
  · exact maProtocol_448 w
  · exact maProtocol_449 w
  · exact maProtocol_454 w
  · exact maProtocol_460 w
  · exact maProtocol_461 w
  · exact maProtocol_465 w
  · exact maProtocol_466 w
  · exact maProtocol_477 w
  · exact maProtocol_478 w
  · exact maProtocol_480 w
  · exact maProtocol_481 w
  · exact maProtocol_777 w
  · exact maProtocol_7367777 w
  · have hr := row_none h
    simp only [pname, pcode, psz, ppath, known, hr]
    have hb : ∀ k : Int, c ≠ k → (c == k) = false := fun k hk => beq_eq_false_iff_ne.2 hk
    obtain ⟨h4, h6, h33, h41, h42, h43, h53, h54, h55, h56, h132, h273, h276, h280, h281, h290, h301, h302, h400, h421, h443, h444, h445, h446, h447, h448, h449, h454, h460, h461, h465, h466, h477, h478, h480, h481, h777, h7367777⟩ := h
    exact maProtocol_none c w (hb _ h4) (hb _ h6) (hb _ h33) (hb _ h41) (hb _ h42) (hb _ h43) (hb _ h53) (hb _ h54) (hb _ h55) (hb _ h56) (hb _ h132) (hb _ h273) (hb _ h276) (hb _ h280) (hb _ h281) (hb _ h290) (hb _ h301) (hb _ h302) (hb _ h400) (hb _ h421) (hb _ h443) (hb _ h444) (hb _ h445) (hb _ h446) (hb _ h447) (hb _ h448) (hb _ h449) (hb _ h454) (hb _ h460) (hb _ h461) (hb _ h465) (hb _ h466) (hb _ h477) (hb _ h478) (hb _ h480) (hb _ h481) (hb _ h777) (hb _ h7367777)
end Go.Proofs.YtnpcmmjdojdmnaaGreatDoor
