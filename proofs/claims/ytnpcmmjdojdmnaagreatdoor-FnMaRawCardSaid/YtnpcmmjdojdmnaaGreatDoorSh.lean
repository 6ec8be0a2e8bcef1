/- The wrapped transcoders: BytesToString (428), ValidateBytes (430). -/
import Derived.Test.YtnpcmmjdojdmnaaGreatDoorSb
import Derived.Test.YtnpcmmjdojdmnaaGreatDoorQo
namespace Go.Proofs.YtnpcmmjdojdmnaaGreatDoor
open Go Go.RowKit Go.Sort

/-- BytesToString of a transcoder at bytes: it speaks, it refuses; its check. -/
def BtsY (f : Nat) (l : List UInt8) : Prop := ∀ (w : World) (g o cp : Nat), l.length ≤ cp → Env w → At w g o l →
  Calls Tryz.prog f #[.slice (some ⟨g, o, none⟩) l.length cp] w fun e w' => ∃ s, e = .returned (.tuple #[.string s, .nilIface]) ∧ Below w.heap.size w w'
def BtsN (f : Nat) (l : List UInt8) : Prop := ∀ (w : World) (g o cp : Nat), l.length ≤ cp → Env w → At w g o l →
  Calls Tryz.prog f #[.slice (some ⟨g, o, none⟩) l.length cp] w fun e w' => ∃ s t p, e = .returned (.tuple #[.string s, .iface t p]) ∧ Below w.heap.size w w'
def ValY (f : Nat) (l : List UInt8) : Prop := ∀ (w : World) (g o cp : Nat), l.length ≤ cp → Env w → At w g o l →
  Calls Tryz.prog f #[.slice (some ⟨g, o, none⟩) l.length cp] w fun e w' => e = .returned .nilIface ∧ Below w.heap.size w w'
def ValN (f : Nat) (l : List UInt8) : Prop := ∀ (w : World) (g o cp : Nat), l.length ≤ cp → Env w → At w g o l →
  Calls Tryz.prog f #[.slice (some ⟨g, o, none⟩) l.length cp] w fun e w' => ∃ t p, e = .returned (.iface t p) ∧ Below w.heap.size w w'

theorem mindY_nil (a b : Nat) (V : ByteArray) : MindsY (.agg #[.func (.func a) #[] #[], .func (.func b) #[] #[], .nilFunc]) V := fun w _g _o _cp _ _ _ => twVal a b _ w

set_option maxRecDepth 100000 in
set_option maxHeartbeats 4000000 in
theorem sayY_200 (a c : Value) (l : List UInt8) (hl : 0 < l.length) (h : BtsY 200 l) : SaysY (.agg #[a, .func (.func 200) #[] #[], c]) ⟨l.toArray⟩ := by
  intro w g o cp hcp he hc
  have hs : (⟨l.toArray⟩ : ByteArray).size = l.length := List.size_toArray ..
  have HP : Hid (∀ ob, Calls Tryz.prog 200 #[.slice (some ⟨g, o, none⟩) l.length cp] (w.alloc ob) fun e w' => ∃ s, e = .returned (.tuple #[.string s, .nilIface]) ∧ Below (w.alloc ob).heap.size (w.alloc ob) w') :=
    Lib.hid fun ob => h _ g o cp (by rw [hs] at hcp; exact hcp) (he.up ((Below.refl _ _).alloc (Nat.le_refl _) _)) (At.below (l := l) hc ((Below.refl _ _).alloc (Nat.le_refl _) _) (At.lt (l := l) hc hl))
  rw [hs]
  clear h hc hcp hs he
  go_enter Tryz.func428, Tryz.ntmps428
  go_wp2_with (go_at_call 200; (with_reducible refine (HP.out _).mono ?_); rintro e w2 ⟨s, rfl, hb⟩)
  go_ret2
  exact ⟨s, rfl, below_under hb⟩

set_option maxRecDepth 100000 in
set_option maxHeartbeats 4000000 in
theorem sayY_202 (a c : Value) (l : List UInt8) (hl : 0 < l.length) (h : BtsY 202 l) : SaysY (.agg #[a, .func (.func 202) #[] #[], c]) ⟨l.toArray⟩ := by
  intro w g o cp hcp he hc
  have hs : (⟨l.toArray⟩ : ByteArray).size = l.length := List.size_toArray ..
  have HP : Hid (∀ ob, Calls Tryz.prog 202 #[.slice (some ⟨g, o, none⟩) l.length cp] (w.alloc ob) fun e w' => ∃ s, e = .returned (.tuple #[.string s, .nilIface]) ∧ Below (w.alloc ob).heap.size (w.alloc ob) w') :=
    Lib.hid fun ob => h _ g o cp (by rw [hs] at hcp; exact hcp) (he.up ((Below.refl _ _).alloc (Nat.le_refl _) _)) (At.below (l := l) hc ((Below.refl _ _).alloc (Nat.le_refl _) _) (At.lt (l := l) hc hl))
  rw [hs]
  clear h hc hcp hs he
  go_enter Tryz.func428, Tryz.ntmps428
  go_wp2_with (go_at_call 202; (with_reducible refine (HP.out _).mono ?_); rintro e w2 ⟨s, rfl, hb⟩)
  go_ret2
  exact ⟨s, rfl, below_under hb⟩

set_option maxRecDepth 100000 in
set_option maxHeartbeats 4000000 in
theorem sayY_204 (a c : Value) (l : List UInt8) (hl : 0 < l.length) (h : BtsY 204 l) : SaysY (.agg #[a, .func (.func 204) #[] #[], c]) ⟨l.toArray⟩ := by
  intro w g o cp hcp he hc
  have hs : (⟨l.toArray⟩ : ByteArray).size = l.length := List.size_toArray ..
  have HP : Hid (∀ ob, Calls Tryz.prog 204 #[.slice (some ⟨g, o, none⟩) l.length cp] (w.alloc ob) fun e w' => ∃ s, e = .returned (.tuple #[.string s, .nilIface]) ∧ Below (w.alloc ob).heap.size (w.alloc ob) w') :=
    Lib.hid fun ob => h _ g o cp (by rw [hs] at hcp; exact hcp) (he.up ((Below.refl _ _).alloc (Nat.le_refl _) _)) (At.below (l := l) hc ((Below.refl _ _).alloc (Nat.le_refl _) _) (At.lt (l := l) hc hl))
  rw [hs]
  clear h hc hcp hs he
  go_enter Tryz.func428, Tryz.ntmps428
  go_wp2_with (go_at_call 204; (with_reducible refine (HP.out _).mono ?_); rintro e w2 ⟨s, rfl, hb⟩)
  go_ret2
  exact ⟨s, rfl, below_under hb⟩

set_option maxRecDepth 100000 in
set_option maxHeartbeats 4000000 in
theorem sayY_207 (a c : Value) (l : List UInt8) (hl : 0 < l.length) (h : BtsY 207 l) : SaysY (.agg #[a, .func (.func 207) #[] #[], c]) ⟨l.toArray⟩ := by
  intro w g o cp hcp he hc
  have hs : (⟨l.toArray⟩ : ByteArray).size = l.length := List.size_toArray ..
  have HP : Hid (∀ ob, Calls Tryz.prog 207 #[.slice (some ⟨g, o, none⟩) l.length cp] (w.alloc ob) fun e w' => ∃ s, e = .returned (.tuple #[.string s, .nilIface]) ∧ Below (w.alloc ob).heap.size (w.alloc ob) w') :=
    Lib.hid fun ob => h _ g o cp (by rw [hs] at hcp; exact hcp) (he.up ((Below.refl _ _).alloc (Nat.le_refl _) _)) (At.below (l := l) hc ((Below.refl _ _).alloc (Nat.le_refl _) _) (At.lt (l := l) hc hl))
  rw [hs]
  clear h hc hcp hs he
  go_enter Tryz.func428, Tryz.ntmps428
  go_wp2_with (go_at_call 207; (with_reducible refine (HP.out _).mono ?_); rintro e w2 ⟨s, rfl, hb⟩)
  go_ret2
  exact ⟨s, rfl, below_under hb⟩

set_option maxRecDepth 100000 in
set_option maxHeartbeats 4000000 in
theorem sayY_209 (a c : Value) (l : List UInt8) (hl : 0 < l.length) (h : BtsY 209 l) : SaysY (.agg #[a, .func (.func 209) #[] #[], c]) ⟨l.toArray⟩ := by
  intro w g o cp hcp he hc
  have hs : (⟨l.toArray⟩ : ByteArray).size = l.length := List.size_toArray ..
  have HP : Hid (∀ ob, Calls Tryz.prog 209 #[.slice (some ⟨g, o, none⟩) l.length cp] (w.alloc ob) fun e w' => ∃ s, e = .returned (.tuple #[.string s, .nilIface]) ∧ Below (w.alloc ob).heap.size (w.alloc ob) w') :=
    Lib.hid fun ob => h _ g o cp (by rw [hs] at hcp; exact hcp) (he.up ((Below.refl _ _).alloc (Nat.le_refl _) _)) (At.below (l := l) hc ((Below.refl _ _).alloc (Nat.le_refl _) _) (At.lt (l := l) hc hl))
  rw [hs]
  clear h hc hcp hs he
  go_enter Tryz.func428, Tryz.ntmps428
  go_wp2_with (go_at_call 209; (with_reducible refine (HP.out _).mono ?_); rintro e w2 ⟨s, rfl, hb⟩)
  go_ret2
  exact ⟨s, rfl, below_under hb⟩

set_option maxRecDepth 100000 in
set_option maxHeartbeats 4000000 in
theorem sayY_212 (a c : Value) (l : List UInt8) (hl : 0 < l.length) (h : BtsY 212 l) : SaysY (.agg #[a, .func (.func 212) #[] #[], c]) ⟨l.toArray⟩ := by
  intro w g o cp hcp he hc
  have hs : (⟨l.toArray⟩ : ByteArray).size = l.length := List.size_toArray ..
  have HP : Hid (∀ ob, Calls Tryz.prog 212 #[.slice (some ⟨g, o, none⟩) l.length cp] (w.alloc ob) fun e w' => ∃ s, e = .returned (.tuple #[.string s, .nilIface]) ∧ Below (w.alloc ob).heap.size (w.alloc ob) w') :=
    Lib.hid fun ob => h _ g o cp (by rw [hs] at hcp; exact hcp) (he.up ((Below.refl _ _).alloc (Nat.le_refl _) _)) (At.below (l := l) hc ((Below.refl _ _).alloc (Nat.le_refl _) _) (At.lt (l := l) hc hl))
  rw [hs]
  clear h hc hcp hs he
  go_enter Tryz.func428, Tryz.ntmps428
  go_wp2_with (go_at_call 212; (with_reducible refine (HP.out _).mono ?_); rintro e w2 ⟨s, rfl, hb⟩)
  go_ret2
  exact ⟨s, rfl, below_under hb⟩

set_option maxRecDepth 100000 in
set_option maxHeartbeats 4000000 in
theorem sayY_215 (a c : Value) (l : List UInt8) (hl : 0 < l.length) (h : BtsY 215 l) : SaysY (.agg #[a, .func (.func 215) #[] #[], c]) ⟨l.toArray⟩ := by
  intro w g o cp hcp he hc
  have hs : (⟨l.toArray⟩ : ByteArray).size = l.length := List.size_toArray ..
  have HP : Hid (∀ ob, Calls Tryz.prog 215 #[.slice (some ⟨g, o, none⟩) l.length cp] (w.alloc ob) fun e w' => ∃ s, e = .returned (.tuple #[.string s, .nilIface]) ∧ Below (w.alloc ob).heap.size (w.alloc ob) w') :=
    Lib.hid fun ob => h _ g o cp (by rw [hs] at hcp; exact hcp) (he.up ((Below.refl _ _).alloc (Nat.le_refl _) _)) (At.below (l := l) hc ((Below.refl _ _).alloc (Nat.le_refl _) _) (At.lt (l := l) hc hl))
  rw [hs]
  clear h hc hcp hs he
  go_enter Tryz.func428, Tryz.ntmps428
  go_wp2_with (go_at_call 215; (with_reducible refine (HP.out _).mono ?_); rintro e w2 ⟨s, rfl, hb⟩)
  go_ret2
  exact ⟨s, rfl, below_under hb⟩

set_option maxRecDepth 100000 in
set_option maxHeartbeats 4000000 in
theorem sayY_218 (a c : Value) (l : List UInt8) (hl : 0 < l.length) (h : BtsY 218 l) : SaysY (.agg #[a, .func (.func 218) #[] #[], c]) ⟨l.toArray⟩ := by
  intro w g o cp hcp he hc
  have hs : (⟨l.toArray⟩ : ByteArray).size = l.length := List.size_toArray ..
  have HP : Hid (∀ ob, Calls Tryz.prog 218 #[.slice (some ⟨g, o, none⟩) l.length cp] (w.alloc ob) fun e w' => ∃ s, e = .returned (.tuple #[.string s, .nilIface]) ∧ Below (w.alloc ob).heap.size (w.alloc ob) w') :=
    Lib.hid fun ob => h _ g o cp (by rw [hs] at hcp; exact hcp) (he.up ((Below.refl _ _).alloc (Nat.le_refl _) _)) (At.below (l := l) hc ((Below.refl _ _).alloc (Nat.le_refl _) _) (At.lt (l := l) hc hl))
  rw [hs]
  clear h hc hcp hs he
  go_enter Tryz.func428, Tryz.ntmps428
  go_wp2_with (go_at_call 218; (with_reducible refine (HP.out _).mono ?_); rintro e w2 ⟨s, rfl, hb⟩)
  go_ret2
  exact ⟨s, rfl, below_under hb⟩

set_option maxRecDepth 100000 in
set_option maxHeartbeats 4000000 in
theorem sayY_221 (a c : Value) (l : List UInt8) (hl : 0 < l.length) (h : BtsY 221 l) : SaysY (.agg #[a, .func (.func 221) #[] #[], c]) ⟨l.toArray⟩ := by
  intro w g o cp hcp he hc
  have hs : (⟨l.toArray⟩ : ByteArray).size = l.length := List.size_toArray ..
  have HP : Hid (∀ ob, Calls Tryz.prog 221 #[.slice (some ⟨g, o, none⟩) l.length cp] (w.alloc ob) fun e w' => ∃ s, e = .returned (.tuple #[.string s, .nilIface]) ∧ Below (w.alloc ob).heap.size (w.alloc ob) w') :=
    Lib.hid fun ob => h _ g o cp (by rw [hs] at hcp; exact hcp) (he.up ((Below.refl _ _).alloc (Nat.le_refl _) _)) (At.below (l := l) hc ((Below.refl _ _).alloc (Nat.le_refl _) _) (At.lt (l := l) hc hl))
  rw [hs]
  clear h hc hcp hs he
  go_enter Tryz.func428, Tryz.ntmps428
  go_wp2_with (go_at_call 221; (with_reducible refine (HP.out _).mono ?_); rintro e w2 ⟨s, rfl, hb⟩)
  go_ret2
  exact ⟨s, rfl, below_under hb⟩

set_option maxRecDepth 100000 in
set_option maxHeartbeats 4000000 in
theorem sayY_224 (a c : Value) (l : List UInt8) (hl : 0 < l.length) (h : BtsY 224 l) : SaysY (.agg #[a, .func (.func 224) #[] #[], c]) ⟨l.toArray⟩ := by
  intro w g o cp hcp he hc
  have hs : (⟨l.toArray⟩ : ByteArray).size = l.length := List.size_toArray ..
  have HP : Hid (∀ ob, Calls Tryz.prog 224 #[.slice (some ⟨g, o, none⟩) l.length cp] (w.alloc ob) fun e w' => ∃ s, e = .returned (.tuple #[.string s, .nilIface]) ∧ Below (w.alloc ob).heap.size (w.alloc ob) w') :=
    Lib.hid fun ob => h _ g o cp (by rw [hs] at hcp; exact hcp) (he.up ((Below.refl _ _).alloc (Nat.le_refl _) _)) (At.below (l := l) hc ((Below.refl _ _).alloc (Nat.le_refl _) _) (At.lt (l := l) hc hl))
  rw [hs]
  clear h hc hcp hs he
  go_enter Tryz.func428, Tryz.ntmps428
  go_wp2_with (go_at_call 224; (with_reducible refine (HP.out _).mono ?_); rintro e w2 ⟨s, rfl, hb⟩)
  go_ret2
  exact ⟨s, rfl, below_under hb⟩

set_option maxRecDepth 100000 in
set_option maxHeartbeats 4000000 in
theorem sayY_227 (a c : Value) (l : List UInt8) (hl : 0 < l.length) (h : BtsY 227 l) : SaysY (.agg #[a, .func (.func 227) #[] #[], c]) ⟨l.toArray⟩ := by
  intro w g o cp hcp he hc
  have hs : (⟨l.toArray⟩ : ByteArray).size = l.length := List.size_toArray ..
  have HP : Hid (∀ ob, Calls Tryz.prog 227 #[.slice (some ⟨g, o, none⟩) l.length cp] (w.alloc ob) fun e w' => ∃ s, e = .returned (.tuple #[.string s, .nilIface]) ∧ Below (w.alloc ob).heap.size (w.alloc ob) w') :=
    Lib.hid fun ob => h _ g o cp (by rw [hs] at hcp; exact hcp) (he.up ((Below.refl _ _).alloc (Nat.le_refl _) _)) (At.below (l := l) hc ((Below.refl _ _).alloc (Nat.le_refl _) _) (At.lt (l := l) hc hl))
  rw [hs]
  clear h hc hcp hs he
  go_enter Tryz.func428, Tryz.ntmps428
  go_wp2_with (go_at_call 227; (with_reducible refine (HP.out _).mono ?_); rintro e w2 ⟨s, rfl, hb⟩)
  go_ret2
  exact ⟨s, rfl, below_under hb⟩

set_option maxRecDepth 100000 in
set_option maxHeartbeats 4000000 in
theorem sayY_230 (a c : Value) (l : List UInt8) (hl : 0 < l.length) (h : BtsY 230 l) : SaysY (.agg #[a, .func (.func 230) #[] #[], c]) ⟨l.toArray⟩ := by
  intro w g o cp hcp he hc
  have hs : (⟨l.toArray⟩ : ByteArray).size = l.length := List.size_toArray ..
  have HP : Hid (∀ ob, Calls Tryz.prog 230 #[.slice (some ⟨g, o, none⟩) l.length cp] (w.alloc ob) fun e w' => ∃ s, e = .returned (.tuple #[.string s, .nilIface]) ∧ Below (w.alloc ob).heap.size (w.alloc ob) w') :=
    Lib.hid fun ob => h _ g o cp (by rw [hs] at hcp; exact hcp) (he.up ((Below.refl _ _).alloc (Nat.le_refl _) _)) (At.below (l := l) hc ((Below.refl _ _).alloc (Nat.le_refl _) _) (At.lt (l := l) hc hl))
  rw [hs]
  clear h hc hcp hs he
  go_enter Tryz.func428, Tryz.ntmps428
  go_wp2_with (go_at_call 230; (with_reducible refine (HP.out _).mono ?_); rintro e w2 ⟨s, rfl, hb⟩)
  go_ret2
  exact ⟨s, rfl, below_under hb⟩

set_option maxRecDepth 100000 in
set_option maxHeartbeats 4000000 in
theorem sayY_233 (a c : Value) (l : List UInt8) (hl : 0 < l.length) (h : BtsY 233 l) : SaysY (.agg #[a, .func (.func 233) #[] #[], c]) ⟨l.toArray⟩ := by
  intro w g o cp hcp he hc
  have hs : (⟨l.toArray⟩ : ByteArray).size = l.length := List.size_toArray ..
  have HP : Hid (∀ ob, Calls Tryz.prog 233 #[.slice (some ⟨g, o, none⟩) l.length cp] (w.alloc ob) fun e w' => ∃ s, e = .returned (.tuple #[.string s, .nilIface]) ∧ Below (w.alloc ob).heap.size (w.alloc ob) w') :=
    Lib.hid fun ob => h _ g o cp (by rw [hs] at hcp; exact hcp) (he.up ((Below.refl _ _).alloc (Nat.le_refl _) _)) (At.below (l := l) hc ((Below.refl _ _).alloc (Nat.le_refl _) _) (At.lt (l := l) hc hl))
  rw [hs]
  clear h hc hcp hs he
  go_enter Tryz.func428, Tryz.ntmps428
  go_wp2_with (go_at_call 233; (with_reducible refine (HP.out _).mono ?_); rintro e w2 ⟨s, rfl, hb⟩)
  go_ret2
  exact ⟨s, rfl, below_under hb⟩

set_option maxRecDepth 100000 in
set_option maxHeartbeats 4000000 in
theorem sayY_236 (a c : Value) (l : List UInt8) (hl : 0 < l.length) (h : BtsY 236 l) : SaysY (.agg #[a, .func (.func 236) #[] #[], c]) ⟨l.toArray⟩ := by
  intro w g o cp hcp he hc
  have hs : (⟨l.toArray⟩ : ByteArray).size = l.length := List.size_toArray ..
  have HP : Hid (∀ ob, Calls Tryz.prog 236 #[.slice (some ⟨g, o, none⟩) l.length cp] (w.alloc ob) fun e w' => ∃ s, e = .returned (.tuple #[.string s, .nilIface]) ∧ Below (w.alloc ob).heap.size (w.alloc ob) w') :=
    Lib.hid fun ob => h _ g o cp (by rw [hs] at hcp; exact hcp) (he.up ((Below.refl _ _).alloc (Nat.le_refl _) _)) (At.below (l := l) hc ((Below.refl _ _).alloc (Nat.le_refl _) _) (At.lt (l := l) hc hl))
  rw [hs]
  clear h hc hcp hs he
  go_enter Tryz.func428, Tryz.ntmps428
  go_wp2_with (go_at_call 236; (with_reducible refine (HP.out _).mono ?_); rintro e w2 ⟨s, rfl, hb⟩)
  go_ret2
  exact ⟨s, rfl, below_under hb⟩

set_option maxRecDepth 100000 in
set_option maxHeartbeats 4000000 in
theorem sayY_239 (a c : Value) (l : List UInt8) (hl : 0 < l.length) (h : BtsY 239 l) : SaysY (.agg #[a, .func (.func 239) #[] #[], c]) ⟨l.toArray⟩ := by
  intro w g o cp hcp he hc
  have hs : (⟨l.toArray⟩ : ByteArray).size = l.length := List.size_toArray ..
  have HP : Hid (∀ ob, Calls Tryz.prog 239 #[.slice (some ⟨g, o, none⟩) l.length cp] (w.alloc ob) fun e w' => ∃ s, e = .returned (.tuple #[.string s, .nilIface]) ∧ Below (w.alloc ob).heap.size (w.alloc ob) w') :=
    Lib.hid fun ob => h _ g o cp (by rw [hs] at hcp; exact hcp) (he.up ((Below.refl _ _).alloc (Nat.le_refl _) _)) (At.below (l := l) hc ((Below.refl _ _).alloc (Nat.le_refl _) _) (At.lt (l := l) hc hl))
  rw [hs]
  clear h hc hcp hs he
  go_enter Tryz.func428, Tryz.ntmps428
  go_wp2_with (go_at_call 239; (with_reducible refine (HP.out _).mono ?_); rintro e w2 ⟨s, rfl, hb⟩)
  go_ret2
  exact ⟨s, rfl, below_under hb⟩

set_option maxRecDepth 100000 in
set_option maxHeartbeats 4000000 in
theorem sayN_215 (a c : Value) (l : List UInt8) (hl : 0 < l.length) (h : BtsN 215 l) : SaysN (.agg #[a, .func (.func 215) #[] #[], c]) ⟨l.toArray⟩ := by
  intro w g o cp hcp he hc
  have hs : (⟨l.toArray⟩ : ByteArray).size = l.length := List.size_toArray ..
  have HP : Hid (∀ ob, Calls Tryz.prog 215 #[.slice (some ⟨g, o, none⟩) l.length cp] (w.alloc ob) fun e w' => ∃ s t p, e = .returned (.tuple #[.string s, .iface t p]) ∧ Below (w.alloc ob).heap.size (w.alloc ob) w') :=
    Lib.hid fun ob => h _ g o cp (by rw [hs] at hcp; exact hcp) (he.up ((Below.refl _ _).alloc (Nat.le_refl _) _)) (At.below (l := l) hc ((Below.refl _ _).alloc (Nat.le_refl _) _) (At.lt (l := l) hc hl))
  rw [hs]
  clear h hc hcp hs he
  go_enter Tryz.func428, Tryz.ntmps428
  go_wp2_with (go_at_call 215; (with_reducible refine (HP.out _).mono ?_); rintro e w2 ⟨s, t, p, rfl, hb⟩)
  go_ret2
  exact ⟨_, t, p, rfl, below_under hb⟩

set_option maxRecDepth 100000 in
set_option maxHeartbeats 4000000 in
theorem sayN_218 (a c : Value) (l : List UInt8) (hl : 0 < l.length) (h : BtsN 218 l) : SaysN (.agg #[a, .func (.func 218) #[] #[], c]) ⟨l.toArray⟩ := by
  intro w g o cp hcp he hc
  have hs : (⟨l.toArray⟩ : ByteArray).size = l.length := List.size_toArray ..
  have HP : Hid (∀ ob, Calls Tryz.prog 218 #[.slice (some ⟨g, o, none⟩) l.length cp] (w.alloc ob) fun e w' => ∃ s t p, e = .returned (.tuple #[.string s, .iface t p]) ∧ Below (w.alloc ob).heap.size (w.alloc ob) w') :=
    Lib.hid fun ob => h _ g o cp (by rw [hs] at hcp; exact hcp) (he.up ((Below.refl _ _).alloc (Nat.le_refl _) _)) (At.below (l := l) hc ((Below.refl _ _).alloc (Nat.le_refl _) _) (At.lt (l := l) hc hl))
  rw [hs]
  clear h hc hcp hs he
  go_enter Tryz.func428, Tryz.ntmps428
  go_wp2_with (go_at_call 218; (with_reducible refine (HP.out _).mono ?_); rintro e w2 ⟨s, t, p, rfl, hb⟩)
  go_ret2
  exact ⟨_, t, p, rfl, below_under hb⟩

set_option maxRecDepth 100000 in
set_option maxHeartbeats 4000000 in
theorem sayN_221 (a c : Value) (l : List UInt8) (hl : 0 < l.length) (h : BtsN 221 l) : SaysN (.agg #[a, .func (.func 221) #[] #[], c]) ⟨l.toArray⟩ := by
  intro w g o cp hcp he hc
  have hs : (⟨l.toArray⟩ : ByteArray).size = l.length := List.size_toArray ..
  have HP : Hid (∀ ob, Calls Tryz.prog 221 #[.slice (some ⟨g, o, none⟩) l.length cp] (w.alloc ob) fun e w' => ∃ s t p, e = .returned (.tuple #[.string s, .iface t p]) ∧ Below (w.alloc ob).heap.size (w.alloc ob) w') :=
    Lib.hid fun ob => h _ g o cp (by rw [hs] at hcp; exact hcp) (he.up ((Below.refl _ _).alloc (Nat.le_refl _) _)) (At.below (l := l) hc ((Below.refl _ _).alloc (Nat.le_refl _) _) (At.lt (l := l) hc hl))
  rw [hs]
  clear h hc hcp hs he
  go_enter Tryz.func428, Tryz.ntmps428
  go_wp2_with (go_at_call 221; (with_reducible refine (HP.out _).mono ?_); rintro e w2 ⟨s, t, p, rfl, hb⟩)
  go_ret2
  exact ⟨_, t, p, rfl, below_under hb⟩

set_option maxRecDepth 100000 in
set_option maxHeartbeats 4000000 in
theorem sayN_224 (a c : Value) (l : List UInt8) (hl : 0 < l.length) (h : BtsN 224 l) : SaysN (.agg #[a, .func (.func 224) #[] #[], c]) ⟨l.toArray⟩ := by
  intro w g o cp hcp he hc
  have hs : (⟨l.toArray⟩ : ByteArray).size = l.length := List.size_toArray ..
  have HP : Hid (∀ ob, Calls Tryz.prog 224 #[.slice (some ⟨g, o, none⟩) l.length cp] (w.alloc ob) fun e w' => ∃ s t p, e = .returned (.tuple #[.string s, .iface t p]) ∧ Below (w.alloc ob).heap.size (w.alloc ob) w') :=
    Lib.hid fun ob => h _ g o cp (by rw [hs] at hcp; exact hcp) (he.up ((Below.refl _ _).alloc (Nat.le_refl _) _)) (At.below (l := l) hc ((Below.refl _ _).alloc (Nat.le_refl _) _) (At.lt (l := l) hc hl))
  rw [hs]
  clear h hc hcp hs he
  go_enter Tryz.func428, Tryz.ntmps428
  go_wp2_with (go_at_call 224; (with_reducible refine (HP.out _).mono ?_); rintro e w2 ⟨s, t, p, rfl, hb⟩)
  go_ret2
  exact ⟨_, t, p, rfl, below_under hb⟩

set_option maxRecDepth 100000 in
set_option maxHeartbeats 4000000 in
theorem sayN_233 (a c : Value) (l : List UInt8) (hl : 0 < l.length) (h : BtsN 233 l) : SaysN (.agg #[a, .func (.func 233) #[] #[], c]) ⟨l.toArray⟩ := by
  intro w g o cp hcp he hc
  have hs : (⟨l.toArray⟩ : ByteArray).size = l.length := List.size_toArray ..
  have HP : Hid (∀ ob, Calls Tryz.prog 233 #[.slice (some ⟨g, o, none⟩) l.length cp] (w.alloc ob) fun e w' => ∃ s t p, e = .returned (.tuple #[.string s, .iface t p]) ∧ Below (w.alloc ob).heap.size (w.alloc ob) w') :=
    Lib.hid fun ob => h _ g o cp (by rw [hs] at hcp; exact hcp) (he.up ((Below.refl _ _).alloc (Nat.le_refl _) _)) (At.below (l := l) hc ((Below.refl _ _).alloc (Nat.le_refl _) _) (At.lt (l := l) hc hl))
  rw [hs]
  clear h hc hcp hs he
  go_enter Tryz.func428, Tryz.ntmps428
  go_wp2_with (go_at_call 233; (with_reducible refine (HP.out _).mono ?_); rintro e w2 ⟨s, t, p, rfl, hb⟩)
  go_ret2
  exact ⟨_, t, p, rfl, below_under hb⟩

set_option maxRecDepth 100000 in
set_option maxHeartbeats 4000000 in
theorem mindY_205 (a b : Value) (l : List UInt8) (hl : 0 < l.length) (h : ValY 205 l) : MindsY (.agg #[a, b, .func (.func 205) #[] #[]]) ⟨l.toArray⟩ := by
  intro w g o cp hcp he hc
  have hs : (⟨l.toArray⟩ : ByteArray).size = l.length := List.size_toArray ..
  have HP : Hid (∀ ob, Calls Tryz.prog 205 #[.slice (some ⟨g, o, none⟩) l.length cp] (w.alloc ob) fun e w' => e = .returned .nilIface ∧ Below (w.alloc ob).heap.size (w.alloc ob) w') :=
    Lib.hid fun ob => h _ g o cp (by rw [hs] at hcp; exact hcp) (he.up ((Below.refl _ _).alloc (Nat.le_refl _) _)) (At.below (l := l) hc ((Below.refl _ _).alloc (Nat.le_refl _) _) (At.lt (l := l) hc hl))
  rw [hs]
  have hq : ∀ w, (binOp .eql 135 (.func (.func 205) #[] #[]) .nilFunc).run Tryz.prog w = .ok (.bool false) w := fun _ => by kernel_rfl
  clear h hc hcp hs he
  go_enter Tryz.func430, Tryz.ntmps430
  go_wp2_with (go_at_call 205; (with_reducible refine (HP.out _).mono ?_); rintro e w2 ⟨rfl, hb⟩)
  go_ret
  exact ⟨rfl, below_under hb⟩

set_option maxRecDepth 100000 in
set_option maxHeartbeats 4000000 in
theorem mindY_210 (a b : Value) (l : List UInt8) (hl : 0 < l.length) (h : ValY 210 l) : MindsY (.agg #[a, b, .func (.func 210) #[] #[]]) ⟨l.toArray⟩ := by
  intro w g o cp hcp he hc
  have hs : (⟨l.toArray⟩ : ByteArray).size = l.length := List.size_toArray ..
  have HP : Hid (∀ ob, Calls Tryz.prog 210 #[.slice (some ⟨g, o, none⟩) l.length cp] (w.alloc ob) fun e w' => e = .returned .nilIface ∧ Below (w.alloc ob).heap.size (w.alloc ob) w') :=
    Lib.hid fun ob => h _ g o cp (by rw [hs] at hcp; exact hcp) (he.up ((Below.refl _ _).alloc (Nat.le_refl _) _)) (At.below (l := l) hc ((Below.refl _ _).alloc (Nat.le_refl _) _) (At.lt (l := l) hc hl))
  rw [hs]
  have hq : ∀ w, (binOp .eql 135 (.func (.func 210) #[] #[]) .nilFunc).run Tryz.prog w = .ok (.bool false) w := fun _ => by kernel_rfl
  clear h hc hcp hs he
  go_enter Tryz.func430, Tryz.ntmps430
  go_wp2_with (go_at_call 210; (with_reducible refine (HP.out _).mono ?_); rintro e w2 ⟨rfl, hb⟩)
  go_ret
  exact ⟨rfl, below_under hb⟩

set_option maxRecDepth 100000 in
set_option maxHeartbeats 4000000 in
theorem mindY_213 (a b : Value) (l : List UInt8) (hl : 0 < l.length) (h : ValY 213 l) : MindsY (.agg #[a, b, .func (.func 213) #[] #[]]) ⟨l.toArray⟩ := by
  intro w g o cp hcp he hc
  have hs : (⟨l.toArray⟩ : ByteArray).size = l.length := List.size_toArray ..
  have HP : Hid (∀ ob, Calls Tryz.prog 213 #[.slice (some ⟨g, o, none⟩) l.length cp] (w.alloc ob) fun e w' => e = .returned .nilIface ∧ Below (w.alloc ob).heap.size (w.alloc ob) w') :=
    Lib.hid fun ob => h _ g o cp (by rw [hs] at hcp; exact hcp) (he.up ((Below.refl _ _).alloc (Nat.le_refl _) _)) (At.below (l := l) hc ((Below.refl _ _).alloc (Nat.le_refl _) _) (At.lt (l := l) hc hl))
  rw [hs]
  have hq : ∀ w, (binOp .eql 135 (.func (.func 213) #[] #[]) .nilFunc).run Tryz.prog w = .ok (.bool false) w := fun _ => by kernel_rfl
  clear h hc hcp hs he
  go_enter Tryz.func430, Tryz.ntmps430
  go_wp2_with (go_at_call 213; (with_reducible refine (HP.out _).mono ?_); rintro e w2 ⟨rfl, hb⟩)
  go_ret
  exact ⟨rfl, below_under hb⟩

set_option maxRecDepth 100000 in
set_option maxHeartbeats 4000000 in
theorem mindY_216 (a b : Value) (l : List UInt8) (hl : 0 < l.length) (h : ValY 216 l) : MindsY (.agg #[a, b, .func (.func 216) #[] #[]]) ⟨l.toArray⟩ := by
  intro w g o cp hcp he hc
  have hs : (⟨l.toArray⟩ : ByteArray).size = l.length := List.size_toArray ..
  have HP : Hid (∀ ob, Calls Tryz.prog 216 #[.slice (some ⟨g, o, none⟩) l.length cp] (w.alloc ob) fun e w' => e = .returned .nilIface ∧ Below (w.alloc ob).heap.size (w.alloc ob) w') :=
    Lib.hid fun ob => h _ g o cp (by rw [hs] at hcp; exact hcp) (he.up ((Below.refl _ _).alloc (Nat.le_refl _) _)) (At.below (l := l) hc ((Below.refl _ _).alloc (Nat.le_refl _) _) (At.lt (l := l) hc hl))
  rw [hs]
  have hq : ∀ w, (binOp .eql 135 (.func (.func 216) #[] #[]) .nilFunc).run Tryz.prog w = .ok (.bool false) w := fun _ => by kernel_rfl
  clear h hc hcp hs he
  go_enter Tryz.func430, Tryz.ntmps430
  go_wp2_with (go_at_call 216; (with_reducible refine (HP.out _).mono ?_); rintro e w2 ⟨rfl, hb⟩)
  go_ret
  exact ⟨rfl, below_under hb⟩

set_option maxRecDepth 100000 in
set_option maxHeartbeats 4000000 in
theorem mindY_219 (a b : Value) (l : List UInt8) (hl : 0 < l.length) (h : ValY 219 l) : MindsY (.agg #[a, b, .func (.func 219) #[] #[]]) ⟨l.toArray⟩ := by
  intro w g o cp hcp he hc
  have hs : (⟨l.toArray⟩ : ByteArray).size = l.length := List.size_toArray ..
  have HP : Hid (∀ ob, Calls Tryz.prog 219 #[.slice (some ⟨g, o, none⟩) l.length cp] (w.alloc ob) fun e w' => e = .returned .nilIface ∧ Below (w.alloc ob).heap.size (w.alloc ob) w') :=
    Lib.hid fun ob => h _ g o cp (by rw [hs] at hcp; exact hcp) (he.up ((Below.refl _ _).alloc (Nat.le_refl _) _)) (At.below (l := l) hc ((Below.refl _ _).alloc (Nat.le_refl _) _) (At.lt (l := l) hc hl))
  rw [hs]
  have hq : ∀ w, (binOp .eql 135 (.func (.func 219) #[] #[]) .nilFunc).run Tryz.prog w = .ok (.bool false) w := fun _ => by kernel_rfl
  clear h hc hcp hs he
  go_enter Tryz.func430, Tryz.ntmps430
  go_wp2_with (go_at_call 219; (with_reducible refine (HP.out _).mono ?_); rintro e w2 ⟨rfl, hb⟩)
  go_ret
  exact ⟨rfl, below_under hb⟩

set_option maxRecDepth 100000 in
set_option maxHeartbeats 4000000 in
theorem mindY_222 (a b : Value) (l : List UInt8) (hl : 0 < l.length) (h : ValY 222 l) : MindsY (.agg #[a, b, .func (.func 222) #[] #[]]) ⟨l.toArray⟩ := by
  intro w g o cp hcp he hc
  have hs : (⟨l.toArray⟩ : ByteArray).size = l.length := List.size_toArray ..
  have HP : Hid (∀ ob, Calls Tryz.prog 222 #[.slice (some ⟨g, o, none⟩) l.length cp] (w.alloc ob) fun e w' => e = .returned .nilIface ∧ Below (w.alloc ob).heap.size (w.alloc ob) w') :=
    Lib.hid fun ob => h _ g o cp (by rw [hs] at hcp; exact hcp) (he.up ((Below.refl _ _).alloc (Nat.le_refl _) _)) (At.below (l := l) hc ((Below.refl _ _).alloc (Nat.le_refl _) _) (At.lt (l := l) hc hl))
  rw [hs]
  have hq : ∀ w, (binOp .eql 135 (.func (.func 222) #[] #[]) .nilFunc).run Tryz.prog w = .ok (.bool false) w := fun _ => by kernel_rfl
  clear h hc hcp hs he
  go_enter Tryz.func430, Tryz.ntmps430
  go_wp2_with (go_at_call 222; (with_reducible refine (HP.out _).mono ?_); rintro e w2 ⟨rfl, hb⟩)
  go_ret
  exact ⟨rfl, below_under hb⟩

set_option maxRecDepth 100000 in
set_option maxHeartbeats 4000000 in
theorem mindY_225 (a b : Value) (l : List UInt8) (hl : 0 < l.length) (h : ValY 225 l) : MindsY (.agg #[a, b, .func (.func 225) #[] #[]]) ⟨l.toArray⟩ := by
  intro w g o cp hcp he hc
  have hs : (⟨l.toArray⟩ : ByteArray).size = l.length := List.size_toArray ..
  have HP : Hid (∀ ob, Calls Tryz.prog 225 #[.slice (some ⟨g, o, none⟩) l.length cp] (w.alloc ob) fun e w' => e = .returned .nilIface ∧ Below (w.alloc ob).heap.size (w.alloc ob) w') :=
    Lib.hid fun ob => h _ g o cp (by rw [hs] at hcp; exact hcp) (he.up ((Below.refl _ _).alloc (Nat.le_refl _) _)) (At.below (l := l) hc ((Below.refl _ _).alloc (Nat.le_refl _) _) (At.lt (l := l) hc hl))
  rw [hs]
  have hq : ∀ w, (binOp .eql 135 (.func (.func 225) #[] #[]) .nilFunc).run Tryz.prog w = .ok (.bool false) w := fun _ => by kernel_rfl
  clear h hc hcp hs he
  go_enter Tryz.func430, Tryz.ntmps430
  go_wp2_with (go_at_call 225; (with_reducible refine (HP.out _).mono ?_); rintro e w2 ⟨rfl, hb⟩)
  go_ret
  exact ⟨rfl, below_under hb⟩

set_option maxRecDepth 100000 in
set_option maxHeartbeats 4000000 in
theorem mindY_228 (a b : Value) (l : List UInt8) (hl : 0 < l.length) (h : ValY 228 l) : MindsY (.agg #[a, b, .func (.func 228) #[] #[]]) ⟨l.toArray⟩ := by
  intro w g o cp hcp he hc
  have hs : (⟨l.toArray⟩ : ByteArray).size = l.length := List.size_toArray ..
  have HP : Hid (∀ ob, Calls Tryz.prog 228 #[.slice (some ⟨g, o, none⟩) l.length cp] (w.alloc ob) fun e w' => e = .returned .nilIface ∧ Below (w.alloc ob).heap.size (w.alloc ob) w') :=
    Lib.hid fun ob => h _ g o cp (by rw [hs] at hcp; exact hcp) (he.up ((Below.refl _ _).alloc (Nat.le_refl _) _)) (At.below (l := l) hc ((Below.refl _ _).alloc (Nat.le_refl _) _) (At.lt (l := l) hc hl))
  rw [hs]
  have hq : ∀ w, (binOp .eql 135 (.func (.func 228) #[] #[]) .nilFunc).run Tryz.prog w = .ok (.bool false) w := fun _ => by kernel_rfl
  clear h hc hcp hs he
  go_enter Tryz.func430, Tryz.ntmps430
  go_wp2_with (go_at_call 228; (with_reducible refine (HP.out _).mono ?_); rintro e w2 ⟨rfl, hb⟩)
  go_ret
  exact ⟨rfl, below_under hb⟩

set_option maxRecDepth 100000 in
set_option maxHeartbeats 4000000 in
theorem mindY_231 (a b : Value) (l : List UInt8) (hl : 0 < l.length) (h : ValY 231 l) : MindsY (.agg #[a, b, .func (.func 231) #[] #[]]) ⟨l.toArray⟩ := by
  intro w g o cp hcp he hc
  have hs : (⟨l.toArray⟩ : ByteArray).size = l.length := List.size_toArray ..
  have HP : Hid (∀ ob, Calls Tryz.prog 231 #[.slice (some ⟨g, o, none⟩) l.length cp] (w.alloc ob) fun e w' => e = .returned .nilIface ∧ Below (w.alloc ob).heap.size (w.alloc ob) w') :=
    Lib.hid fun ob => h _ g o cp (by rw [hs] at hcp; exact hcp) (he.up ((Below.refl _ _).alloc (Nat.le_refl _) _)) (At.below (l := l) hc ((Below.refl _ _).alloc (Nat.le_refl _) _) (At.lt (l := l) hc hl))
  rw [hs]
  have hq : ∀ w, (binOp .eql 135 (.func (.func 231) #[] #[]) .nilFunc).run Tryz.prog w = .ok (.bool false) w := fun _ => by kernel_rfl
  clear h hc hcp hs he
  go_enter Tryz.func430, Tryz.ntmps430
  go_wp2_with (go_at_call 231; (with_reducible refine (HP.out _).mono ?_); rintro e w2 ⟨rfl, hb⟩)
  go_ret
  exact ⟨rfl, below_under hb⟩

set_option maxRecDepth 100000 in
set_option maxHeartbeats 4000000 in
theorem mindY_234 (a b : Value) (l : List UInt8) (hl : 0 < l.length) (h : ValY 234 l) : MindsY (.agg #[a, b, .func (.func 234) #[] #[]]) ⟨l.toArray⟩ := by
  intro w g o cp hcp he hc
  have hs : (⟨l.toArray⟩ : ByteArray).size = l.length := List.size_toArray ..
  have HP : Hid (∀ ob, Calls Tryz.prog 234 #[.slice (some ⟨g, o, none⟩) l.length cp] (w.alloc ob) fun e w' => e = .returned .nilIface ∧ Below (w.alloc ob).heap.size (w.alloc ob) w') :=
    Lib.hid fun ob => h _ g o cp (by rw [hs] at hcp; exact hcp) (he.up ((Below.refl _ _).alloc (Nat.le_refl _) _)) (At.below (l := l) hc ((Below.refl _ _).alloc (Nat.le_refl _) _) (At.lt (l := l) hc hl))
  rw [hs]
  have hq : ∀ w, (binOp .eql 135 (.func (.func 234) #[] #[]) .nilFunc).run Tryz.prog w = .ok (.bool false) w := fun _ => by kernel_rfl
  clear h hc hcp hs he
  go_enter Tryz.func430, Tryz.ntmps430
  go_wp2_with (go_at_call 234; (with_reducible refine (HP.out _).mono ?_); rintro e w2 ⟨rfl, hb⟩)
  go_ret
  exact ⟨rfl, below_under hb⟩

set_option maxRecDepth 100000 in
set_option maxHeartbeats 4000000 in
theorem mindY_237 (a b : Value) (l : List UInt8) (hl : 0 < l.length) (h : ValY 237 l) : MindsY (.agg #[a, b, .func (.func 237) #[] #[]]) ⟨l.toArray⟩ := by
  intro w g o cp hcp he hc
  have hs : (⟨l.toArray⟩ : ByteArray).size = l.length := List.size_toArray ..
  have HP : Hid (∀ ob, Calls Tryz.prog 237 #[.slice (some ⟨g, o, none⟩) l.length cp] (w.alloc ob) fun e w' => e = .returned .nilIface ∧ Below (w.alloc ob).heap.size (w.alloc ob) w') :=
    Lib.hid fun ob => h _ g o cp (by rw [hs] at hcp; exact hcp) (he.up ((Below.refl _ _).alloc (Nat.le_refl _) _)) (At.below (l := l) hc ((Below.refl _ _).alloc (Nat.le_refl _) _) (At.lt (l := l) hc hl))
  rw [hs]
  have hq : ∀ w, (binOp .eql 135 (.func (.func 237) #[] #[]) .nilFunc).run Tryz.prog w = .ok (.bool false) w := fun _ => by kernel_rfl
  clear h hc hcp hs he
  go_enter Tryz.func430, Tryz.ntmps430
  go_wp2_with (go_at_call 237; (with_reducible refine (HP.out _).mono ?_); rintro e w2 ⟨rfl, hb⟩)
  go_ret
  exact ⟨rfl, below_under hb⟩

set_option maxRecDepth 100000 in
set_option maxHeartbeats 4000000 in
theorem mindY_240 (a b : Value) (l : List UInt8) (hl : 0 < l.length) (h : ValY 240 l) : MindsY (.agg #[a, b, .func (.func 240) #[] #[]]) ⟨l.toArray⟩ := by
  intro w g o cp hcp he hc
  have hs : (⟨l.toArray⟩ : ByteArray).size = l.length := List.size_toArray ..
  have HP : Hid (∀ ob, Calls Tryz.prog 240 #[.slice (some ⟨g, o, none⟩) l.length cp] (w.alloc ob) fun e w' => e = .returned .nilIface ∧ Below (w.alloc ob).heap.size (w.alloc ob) w') :=
    Lib.hid fun ob => h _ g o cp (by rw [hs] at hcp; exact hcp) (he.up ((Below.refl _ _).alloc (Nat.le_refl _) _)) (At.below (l := l) hc ((Below.refl _ _).alloc (Nat.le_refl _) _) (At.lt (l := l) hc hl))
  rw [hs]
  have hq : ∀ w, (binOp .eql 135 (.func (.func 240) #[] #[]) .nilFunc).run Tryz.prog w = .ok (.bool false) w := fun _ => by kernel_rfl
  clear h hc hcp hs he
  go_enter Tryz.func430, Tryz.ntmps430
  go_wp2_with (go_at_call 240; (with_reducible refine (HP.out _).mono ?_); rintro e w2 ⟨rfl, hb⟩)
  go_ret
  exact ⟨rfl, below_under hb⟩

set_option maxRecDepth 100000 in
set_option maxHeartbeats 4000000 in
theorem mindN_205 (a b : Value) (l : List UInt8) (hl : 0 < l.length) (h : ValN 205 l) : MindsN (.agg #[a, b, .func (.func 205) #[] #[]]) ⟨l.toArray⟩ := by
  intro w g o cp hcp he hc
  have hs : (⟨l.toArray⟩ : ByteArray).size = l.length := List.size_toArray ..
  have HP : Hid (∀ ob, Calls Tryz.prog 205 #[.slice (some ⟨g, o, none⟩) l.length cp] (w.alloc ob) fun e w' => ∃ t p, e = .returned (.iface t p) ∧ Below (w.alloc ob).heap.size (w.alloc ob) w') :=
    Lib.hid fun ob => h _ g o cp (by rw [hs] at hcp; exact hcp) (he.up ((Below.refl _ _).alloc (Nat.le_refl _) _)) (At.below (l := l) hc ((Below.refl _ _).alloc (Nat.le_refl _) _) (At.lt (l := l) hc hl))
  rw [hs]
  have hq : ∀ w, (binOp .eql 135 (.func (.func 205) #[] #[]) .nilFunc).run Tryz.prog w = .ok (.bool false) w := fun _ => by kernel_rfl
  clear h hc hcp hs he
  go_enter Tryz.func430, Tryz.ntmps430
  go_wp2_with (go_at_call 205; (with_reducible refine (HP.out _).mono ?_); rintro e w2 ⟨t, p, rfl, hb⟩)
  go_ret
  exact ⟨t, p, rfl, below_under hb⟩

set_option maxRecDepth 100000 in
set_option maxHeartbeats 4000000 in
theorem mindN_210 (a b : Value) (l : List UInt8) (hl : 0 < l.length) (h : ValN 210 l) : MindsN (.agg #[a, b, .func (.func 210) #[] #[]]) ⟨l.toArray⟩ := by
  intro w g o cp hcp he hc
  have hs : (⟨l.toArray⟩ : ByteArray).size = l.length := List.size_toArray ..
  have HP : Hid (∀ ob, Calls Tryz.prog 210 #[.slice (some ⟨g, o, none⟩) l.length cp] (w.alloc ob) fun e w' => ∃ t p, e = .returned (.iface t p) ∧ Below (w.alloc ob).heap.size (w.alloc ob) w') :=
    Lib.hid fun ob => h _ g o cp (by rw [hs] at hcp; exact hcp) (he.up ((Below.refl _ _).alloc (Nat.le_refl _) _)) (At.below (l := l) hc ((Below.refl _ _).alloc (Nat.le_refl _) _) (At.lt (l := l) hc hl))
  rw [hs]
  have hq : ∀ w, (binOp .eql 135 (.func (.func 210) #[] #[]) .nilFunc).run Tryz.prog w = .ok (.bool false) w := fun _ => by kernel_rfl
  clear h hc hcp hs he
  go_enter Tryz.func430, Tryz.ntmps430
  go_wp2_with (go_at_call 210; (with_reducible refine (HP.out _).mono ?_); rintro e w2 ⟨t, p, rfl, hb⟩)
  go_ret
  exact ⟨t, p, rfl, below_under hb⟩

set_option maxRecDepth 100000 in
set_option maxHeartbeats 4000000 in
theorem mindN_216 (a b : Value) (l : List UInt8) (hl : 0 < l.length) (h : ValN 216 l) : MindsN (.agg #[a, b, .func (.func 216) #[] #[]]) ⟨l.toArray⟩ := by
  intro w g o cp hcp he hc
  have hs : (⟨l.toArray⟩ : ByteArray).size = l.length := List.size_toArray ..
  have HP : Hid (∀ ob, Calls Tryz.prog 216 #[.slice (some ⟨g, o, none⟩) l.length cp] (w.alloc ob) fun e w' => ∃ t p, e = .returned (.iface t p) ∧ Below (w.alloc ob).heap.size (w.alloc ob) w') :=
    Lib.hid fun ob => h _ g o cp (by rw [hs] at hcp; exact hcp) (he.up ((Below.refl _ _).alloc (Nat.le_refl _) _)) (At.below (l := l) hc ((Below.refl _ _).alloc (Nat.le_refl _) _) (At.lt (l := l) hc hl))
  rw [hs]
  have hq : ∀ w, (binOp .eql 135 (.func (.func 216) #[] #[]) .nilFunc).run Tryz.prog w = .ok (.bool false) w := fun _ => by kernel_rfl
  clear h hc hcp hs he
  go_enter Tryz.func430, Tryz.ntmps430
  go_wp2_with (go_at_call 216; (with_reducible refine (HP.out _).mono ?_); rintro e w2 ⟨t, p, rfl, hb⟩)
  go_ret
  exact ⟨t, p, rfl, below_under hb⟩

set_option maxRecDepth 100000 in
set_option maxHeartbeats 4000000 in
theorem mindN_219 (a b : Value) (l : List UInt8) (hl : 0 < l.length) (h : ValN 219 l) : MindsN (.agg #[a, b, .func (.func 219) #[] #[]]) ⟨l.toArray⟩ := by
  intro w g o cp hcp he hc
  have hs : (⟨l.toArray⟩ : ByteArray).size = l.length := List.size_toArray ..
  have HP : Hid (∀ ob, Calls Tryz.prog 219 #[.slice (some ⟨g, o, none⟩) l.length cp] (w.alloc ob) fun e w' => ∃ t p, e = .returned (.iface t p) ∧ Below (w.alloc ob).heap.size (w.alloc ob) w') :=
    Lib.hid fun ob => h _ g o cp (by rw [hs] at hcp; exact hcp) (he.up ((Below.refl _ _).alloc (Nat.le_refl _) _)) (At.below (l := l) hc ((Below.refl _ _).alloc (Nat.le_refl _) _) (At.lt (l := l) hc hl))
  rw [hs]
  have hq : ∀ w, (binOp .eql 135 (.func (.func 219) #[] #[]) .nilFunc).run Tryz.prog w = .ok (.bool false) w := fun _ => by kernel_rfl
  clear h hc hcp hs he
  go_enter Tryz.func430, Tryz.ntmps430
  go_wp2_with (go_at_call 219; (with_reducible refine (HP.out _).mono ?_); rintro e w2 ⟨t, p, rfl, hb⟩)
  go_ret
  exact ⟨t, p, rfl, below_under hb⟩

set_option maxRecDepth 100000 in
set_option maxHeartbeats 4000000 in
theorem mindN_222 (a b : Value) (l : List UInt8) (hl : 0 < l.length) (h : ValN 222 l) : MindsN (.agg #[a, b, .func (.func 222) #[] #[]]) ⟨l.toArray⟩ := by
  intro w g o cp hcp he hc
  have hs : (⟨l.toArray⟩ : ByteArray).size = l.length := List.size_toArray ..
  have HP : Hid (∀ ob, Calls Tryz.prog 222 #[.slice (some ⟨g, o, none⟩) l.length cp] (w.alloc ob) fun e w' => ∃ t p, e = .returned (.iface t p) ∧ Below (w.alloc ob).heap.size (w.alloc ob) w') :=
    Lib.hid fun ob => h _ g o cp (by rw [hs] at hcp; exact hcp) (he.up ((Below.refl _ _).alloc (Nat.le_refl _) _)) (At.below (l := l) hc ((Below.refl _ _).alloc (Nat.le_refl _) _) (At.lt (l := l) hc hl))
  rw [hs]
  have hq : ∀ w, (binOp .eql 135 (.func (.func 222) #[] #[]) .nilFunc).run Tryz.prog w = .ok (.bool false) w := fun _ => by kernel_rfl
  clear h hc hcp hs he
  go_enter Tryz.func430, Tryz.ntmps430
  go_wp2_with (go_at_call 222; (with_reducible refine (HP.out _).mono ?_); rintro e w2 ⟨t, p, rfl, hb⟩)
  go_ret
  exact ⟨t, p, rfl, below_under hb⟩

set_option maxRecDepth 100000 in
set_option maxHeartbeats 4000000 in
theorem mindN_225 (a b : Value) (l : List UInt8) (hl : 0 < l.length) (h : ValN 225 l) : MindsN (.agg #[a, b, .func (.func 225) #[] #[]]) ⟨l.toArray⟩ := by
  intro w g o cp hcp he hc
  have hs : (⟨l.toArray⟩ : ByteArray).size = l.length := List.size_toArray ..
  have HP : Hid (∀ ob, Calls Tryz.prog 225 #[.slice (some ⟨g, o, none⟩) l.length cp] (w.alloc ob) fun e w' => ∃ t p, e = .returned (.iface t p) ∧ Below (w.alloc ob).heap.size (w.alloc ob) w') :=
    Lib.hid fun ob => h _ g o cp (by rw [hs] at hcp; exact hcp) (he.up ((Below.refl _ _).alloc (Nat.le_refl _) _)) (At.below (l := l) hc ((Below.refl _ _).alloc (Nat.le_refl _) _) (At.lt (l := l) hc hl))
  rw [hs]
  have hq : ∀ w, (binOp .eql 135 (.func (.func 225) #[] #[]) .nilFunc).run Tryz.prog w = .ok (.bool false) w := fun _ => by kernel_rfl
  clear h hc hcp hs he
  go_enter Tryz.func430, Tryz.ntmps430
  go_wp2_with (go_at_call 225; (with_reducible refine (HP.out _).mono ?_); rintro e w2 ⟨t, p, rfl, hb⟩)
  go_ret
  exact ⟨t, p, rfl, below_under hb⟩

set_option maxRecDepth 100000 in
set_option maxHeartbeats 4000000 in
theorem mindN_228 (a b : Value) (l : List UInt8) (hl : 0 < l.length) (h : ValN 228 l) : MindsN (.agg #[a, b, .func (.func 228) #[] #[]]) ⟨l.toArray⟩ := by
  intro w g o cp hcp he hc
  have hs : (⟨l.toArray⟩ : ByteArray).size = l.length := List.size_toArray ..
  have HP : Hid (∀ ob, Calls Tryz.prog 228 #[.slice (some ⟨g, o, none⟩) l.length cp] (w.alloc ob) fun e w' => ∃ t p, e = .returned (.iface t p) ∧ Below (w.alloc ob).heap.size (w.alloc ob) w') :=
    Lib.hid fun ob => h _ g o cp (by rw [hs] at hcp; exact hcp) (he.up ((Below.refl _ _).alloc (Nat.le_refl _) _)) (At.below (l := l) hc ((Below.refl _ _).alloc (Nat.le_refl _) _) (At.lt (l := l) hc hl))
  rw [hs]
  have hq : ∀ w, (binOp .eql 135 (.func (.func 228) #[] #[]) .nilFunc).run Tryz.prog w = .ok (.bool false) w := fun _ => by kernel_rfl
  clear h hc hcp hs he
  go_enter Tryz.func430, Tryz.ntmps430
  go_wp2_with (go_at_call 228; (with_reducible refine (HP.out _).mono ?_); rintro e w2 ⟨t, p, rfl, hb⟩)
  go_ret
  exact ⟨t, p, rfl, below_under hb⟩

set_option maxRecDepth 100000 in
set_option maxHeartbeats 4000000 in
theorem mindN_234 (a b : Value) (l : List UInt8) (hl : 0 < l.length) (h : ValN 234 l) : MindsN (.agg #[a, b, .func (.func 234) #[] #[]]) ⟨l.toArray⟩ := by
  intro w g o cp hcp he hc
  have hs : (⟨l.toArray⟩ : ByteArray).size = l.length := List.size_toArray ..
  have HP : Hid (∀ ob, Calls Tryz.prog 234 #[.slice (some ⟨g, o, none⟩) l.length cp] (w.alloc ob) fun e w' => ∃ t p, e = .returned (.iface t p) ∧ Below (w.alloc ob).heap.size (w.alloc ob) w') :=
    Lib.hid fun ob => h _ g o cp (by rw [hs] at hcp; exact hcp) (he.up ((Below.refl _ _).alloc (Nat.le_refl _) _)) (At.below (l := l) hc ((Below.refl _ _).alloc (Nat.le_refl _) _) (At.lt (l := l) hc hl))
  rw [hs]
  have hq : ∀ w, (binOp .eql 135 (.func (.func 234) #[] #[]) .nilFunc).run Tryz.prog w = .ok (.bool false) w := fun _ => by kernel_rfl
  clear h hc hcp hs he
  go_enter Tryz.func430, Tryz.ntmps430
  go_wp2_with (go_at_call 234; (with_reducible refine (HP.out _).mono ?_); rintro e w2 ⟨t, p, rfl, hb⟩)
  go_ret
  exact ⟨t, p, rfl, below_under hb⟩

set_option maxRecDepth 100000 in
set_option maxHeartbeats 4000000 in
theorem mindN_237 (a b : Value) (l : List UInt8) (hl : 0 < l.length) (h : ValN 237 l) : MindsN (.agg #[a, b, .func (.func 237) #[] #[]]) ⟨l.toArray⟩ := by
  intro w g o cp hcp he hc
  have hs : (⟨l.toArray⟩ : ByteArray).size = l.length := List.size_toArray ..
  have HP : Hid (∀ ob, Calls Tryz.prog 237 #[.slice (some ⟨g, o, none⟩) l.length cp] (w.alloc ob) fun e w' => ∃ t p, e = .returned (.iface t p) ∧ Below (w.alloc ob).heap.size (w.alloc ob) w') :=
    Lib.hid fun ob => h _ g o cp (by rw [hs] at hcp; exact hcp) (he.up ((Below.refl _ _).alloc (Nat.le_refl _) _)) (At.below (l := l) hc ((Below.refl _ _).alloc (Nat.le_refl _) _) (At.lt (l := l) hc hl))
  rw [hs]
  have hq : ∀ w, (binOp .eql 135 (.func (.func 237) #[] #[]) .nilFunc).run Tryz.prog w = .ok (.bool false) w := fun _ => by kernel_rfl
  clear h hc hcp hs he
  go_enter Tryz.func430, Tryz.ntmps430
  go_wp2_with (go_at_call 237; (with_reducible refine (HP.out _).mono ?_); rintro e w2 ⟨t, p, rfl, hb⟩)
  go_ret
  exact ⟨t, p, rfl, below_under hb⟩

end Go.Proofs.YtnpcmmjdojdmnaaGreatDoor
