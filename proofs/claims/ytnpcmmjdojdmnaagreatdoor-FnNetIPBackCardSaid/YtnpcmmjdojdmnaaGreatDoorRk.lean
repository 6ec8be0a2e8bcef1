/- impl.NetAsk: questions 0 and 1. -/
import Derived.Test.YtnpcmmjdojdmnaaGreatDoorRi
import Derived.Test.YtnpcmmjdojdmnaaGreatDoorQs
namespace Go.Proofs.YtnpcmmjdojdmnaaGreatDoor
open Go Go.RowKit Go.Sort

theorem idle54 (p : Addr) (w : World) :
    CallsD Tryz.prog 54 #[.pointer (some p)] .returning w fun e u' w' => e = .returned (.tuple #[]) ∧ u' = .returning ∧ w' = w := by
  refine callsD_of_wpS Tryz.func54 rfl fun c₀ cs hu => ?_
  have hq : ∀ w, (binOp .neq 20 .nilIface .nilIface).run Tryz.prog w = .ok (.bool false) w := fun _ => by kernel_rfl
  apply wpS_seq
  apply wpS_region
  simp [wpOpsS, go_sem, recoverD, hu, Tryz.ntmps54, Exit.thenS, hq]
  refine wpS_cond (t := false) (by simp [Act.eval]) ?_
  simp only [Bool.false_eq_true, if_false]
  refine wpS_of_wp (wp_skip ?_)
  cases c₀
  simp_all [bodyPostS, results, Tryz.results54]

set_option maxRecDepth 100000 in
set_option maxHeartbeats 4000000 in
theorem ask58_0 (n cap a b c g : Nat) (ans : Bool) (w : World) (h0 : w.cell? ⟨a, 0, none⟩ = some (.int .i64 0)) (h1 : w.cell? ⟨b, 0, none⟩ = some (.slice (some ⟨g, 0, none⟩) n cap)) (h2 : w.cell? ⟨c, 0, none⟩ = some (.bool false)) (hf : w.frozen? ⟨c, 0, none⟩ = false)
    (HQ : Calls Tryz.prog 59 #[.slice (some ⟨g, 0, none⟩) n cap] w fun e w' => e = .returned (.bool ans) ∧ Below w.heap.size w w') :
    Calls Tryz.prog 58 #[.pointer (some ⟨a, 0, none⟩), .pointer (some ⟨b, 0, none⟩), .pointer (some ⟨c, 0, none⟩)] w fun e w' => e = .returned (.tuple #[]) ∧ w'.cell? ⟨c, 0, none⟩ = some (.bool ans) ∧ w'.frozen? ⟨c, 0, none⟩ = false ∧ Below c w w' ∧ (∀ k, k < w.heap.size → k ≠ c → w'.heap[k]? = w.heap[k]?) := by
  have hc := World.block_lt_of_cell? w _ h2
  have H := Lib.hid HQ; clear HQ
  go_enter Tryz.func58, Tryz.ntmps58
  go_wp2_with (go_at_call 59; (with_reducible refine H.out.mono ?_); rintro e w2 ⟨rfl, hb⟩; refine Hid.out ?_)
  refine Lib.hid ?_
  have d2 : w2.cell? ⟨c, 0, none⟩ = some (.bool false) := (hb.cell (p := ⟨c, 0, none⟩) hc).trans h2
  have df : w2.frozen? ⟨c, 0, none⟩ = false := (hb.frozen (p := ⟨c, 0, none⟩) hc).trans hf
  clear h0 h1 h2 hf
  go_wp2
  refine ⟨rfl, .tuple #[], by simp [results, Tryz.results58], ?_⟩
  exact ⟨rfl, World.cell?_setCell_same _ _ _ d2, by rw [World.frozen?_setCell]; exact df, (hb.mono (Nat.le_of_lt hc)).setCell (Nat.le_refl _) _, fun k hk hkc => (Below.heap_setCell w2 ⟨c, 0, none⟩ _ k hkc).trans (hb.block k hk)⟩

set_option maxRecDepth 100000 in
set_option maxHeartbeats 4000000 in
theorem ask58_1 (n cap a b c g : Nat) (ans : Bool) (w : World) (h0 : w.cell? ⟨a, 0, none⟩ = some (.int .i64 1)) (h1 : w.cell? ⟨b, 0, none⟩ = some (.slice (some ⟨g, 0, none⟩) n cap)) (h2 : w.cell? ⟨c, 0, none⟩ = some (.bool false)) (hf : w.frozen? ⟨c, 0, none⟩ = false)
    (HQ : Calls Tryz.prog 60 #[.slice (some ⟨g, 0, none⟩) n cap] w fun e w' => e = .returned (.bool ans) ∧ Below w.heap.size w w') :
    Calls Tryz.prog 58 #[.pointer (some ⟨a, 0, none⟩), .pointer (some ⟨b, 0, none⟩), .pointer (some ⟨c, 0, none⟩)] w fun e w' => e = .returned (.tuple #[]) ∧ w'.cell? ⟨c, 0, none⟩ = some (.bool ans) ∧ w'.frozen? ⟨c, 0, none⟩ = false ∧ Below c w w' ∧ (∀ k, k < w.heap.size → k ≠ c → w'.heap[k]? = w.heap[k]?) := by
  have hc := World.block_lt_of_cell? w _ h2
  have H := Lib.hid HQ; clear HQ
  go_enter Tryz.func58, Tryz.ntmps58
  go_wp2_with (go_at_call 60; (with_reducible refine H.out.mono ?_); rintro e w2 ⟨rfl, hb⟩; refine Hid.out ?_)
  refine Lib.hid ?_
  have d2 : w2.cell? ⟨c, 0, none⟩ = some (.bool false) := (hb.cell (p := ⟨c, 0, none⟩) hc).trans h2
  have df : w2.frozen? ⟨c, 0, none⟩ = false := (hb.frozen (p := ⟨c, 0, none⟩) hc).trans hf
  clear h0 h1 h2 hf
  go_wp2
  refine ⟨rfl, .tuple #[], by simp [results, Tryz.results58], ?_⟩
  exact ⟨rfl, World.cell?_setCell_same _ _ _ d2, by rw [World.frozen?_setCell]; exact df, (hb.mono (Nat.le_of_lt hc)).setCell (Nat.le_refl _) _, fun k hk hkc => (Below.heap_setCell w2 ⟨c, 0, none⟩ _ k hkc).trans (hb.block k hk)⟩

theorem results33 (tmps : Array Value) (w : World) (g : Nat) (b : Bool) (hp : tmps.getD 2 undef = .pointer (some ⟨g, 0, none⟩)) (hg : w.cell? ⟨g, 0, none⟩ = some (.bool b)) : (results Tryz.f33 tmps).run Tryz.prog w = .ok (.bool b) w := by
  have hp' : tmps[2]?.getD undef = .pointer (some ⟨g, 0, none⟩) := by simpa using hp
  simp [results, Tryz.results33, hp', go_sem, hg]

set_option maxRecDepth 100000 in
set_option maxHeartbeats 4000000 in
theorem safe58 (a b c : Nat) (ans : Bool) (w : World) (hc : c < w.heap.size)
    (H : ∀ o', Calls Tryz.prog 58 #[.pointer (some ⟨a, 0, none⟩), .pointer (some ⟨b, 0, none⟩), .pointer (some ⟨c, 0, none⟩)] (w.alloc o') fun e w' => e = .returned (.tuple #[]) ∧ w'.cell? ⟨c, 0, none⟩ = some (.bool ans) ∧ w'.frozen? ⟨c, 0, none⟩ = false ∧ Below c (w.alloc o') w' ∧ (∀ k, k < (w.alloc o').heap.size → k ≠ c → w'.heap[k]? = (w.alloc o').heap[k]?)) :
    Calls Tryz.prog 33 #[.func (.func 58) #[] #[.pointer (some ⟨a, 0, none⟩), .pointer (some ⟨b, 0, none⟩), .pointer (some ⟨c, 0, none⟩)]] w fun e w' => e = .returned (.bool true) ∧ w'.cell? ⟨c, 0, none⟩ = some (.bool ans) ∧ w'.frozen? ⟨c, 0, none⟩ = false ∧ Below c w w' := by
  have hmf : ∀ (fn : Fn) (first cap : Array Value) (w : World), (Instr.makeFunc fn first cap).run Tryz.prog w = .ok (.func fn first cap) w := fun _ _ _ _ => rfl
  have HH := Lib.hid H; clear H
  go_enter_defers Tryz.func33, Tryz.ntmps33
  go_wp2_with (go_at_call 58; (with_reducible refine (HH.out _).mono ?_); rintro e w2 ⟨rfl, h2, hfz, hb, hk⟩; refine Hid.out ?_)
  refine Lib.hid ?_
  have hbx := hk w.heap.size (by simp) (by omega)
  have d0 : w2.cell? ⟨w.heap.size, 0, none⟩ = some (.bool false) := (World.cell?_of_block (a := ⟨w.heap.size, 0, none⟩) hbx).trans (by simp [go_sem])
  have df : w2.frozen? ⟨w.heap.size, 0, none⟩ = false := (World.frozen?_of_block (a := ⟨w.heap.size, 0, none⟩) hbx).trans (by simp [go_sem])
  have d1 : (w2.setCell ⟨w.heap.size, 0, none⟩ (.bool true)).cell? ⟨w.heap.size, 0, none⟩ = some (.bool true) := World.cell?_setCell_same _ _ _ d0
  have hend : (w2.setCell ⟨w.heap.size, 0, none⟩ (.bool true)).cell? ⟨c, 0, none⟩ = some (.bool ans) ∧ (w2.setCell ⟨w.heap.size, 0, none⟩ (.bool true)).frozen? ⟨c, 0, none⟩ = false ∧ Below c w (w2.setCell ⟨w.heap.size, 0, none⟩ (.bool true)) :=
    ⟨by rw [World.cell?_setCell_other _ _ _ _ (by simp)]; exact h2, by rw [World.frozen?_setCell]; exact hfz, (((Below.refl _ _).alloc (Nat.le_of_lt hc) _).trans hb).setCell (by show c ≤ w.heap.size; omega) _⟩
  have HEND := Lib.hid hend
  clear hend h2 hfz hb hk hbx
  go_wp2
  refine leaves_cons (f := 54) (args := #[.pointer (some ⟨w.heap.size, 0, none⟩)]) (by simp) (by simp [go_sem]) ?_
  refine (idle54 ⟨w.heap.size, 0, none⟩ _).mono ?_
  rintro e u' w'' ⟨rfl, rfl, rfl⟩
  generalize w2.setCell ⟨w.heap.size, 0, none⟩ (.bool true) = w5 at *
  simp [Leaves, settle, results, Tryz.results33, go_sem, d1]
  exact HEND.out

theorem results43 (tmps : Array Value) (w : World) (g : Nat) (b : Bool) (hp : tmps.getD 4 undef = .pointer (some ⟨g, 0, none⟩)) (hg : w.cell? ⟨g, 0, none⟩ = some (.bool b)) : (results Tryz.f43 tmps).run Tryz.prog w = .ok (.bool b) w := by
  have hp' : tmps[4]?.getD undef = .pointer (some ⟨g, 0, none⟩) := by simpa using hp
  simp [results, Tryz.results43, hp', go_sem, hg]

set_option maxRecDepth 100000 in
set_option maxHeartbeats 4000000 in
theorem netAsk_0 (cs : List (Int × List UInt8)) (hne : cs ≠ []) (hkn : ∀ x ∈ cs, known x.1 = true ∧ x.2.length ≤ 1000) (hn : cs.length ≤ 100) (g o cp : Nat) (ans : Bool) (w : World) (h : IRow w g o cs)
    (HQ : ∀ (b cap : Nat) (wx : World), cs.length ≤ cap → MAt wx b 0 cs → Calls Tryz.prog 59 #[.slice (some ⟨b, 0, none⟩) cs.length cap] wx fun e w' => e = .returned (.bool ans) ∧ Below wx.heap.size wx w') :
    Calls Tryz.prog 43 #[.int .i64 0, .slice (some ⟨g, o, none⟩) cs.length cp] w fun e w' => e = .returned (.bool ans) ∧ Below w.heap.size w w' := by
  have hmf : ∀ (fn : Fn) (first cap : Array Value) (w : World), (Instr.makeFunc fn first cap).run Tryz.prog w = .ok (.func fn first cap) w := fun _ _ _ _ => rfl
  have hpos : 0 < cs.length := by cases cs with | nil => exact absurd rfl hne | cons a r => simp
  have hgw : g < w.heap.size := World.block_lt_of_cell? w _ (h 0 hpos).1
  have hI : IRow ((w.alloc (.cells #[.int .i64 0] 3)).alloc (.cells #[.bool false] 4)) g o cs := fun k hk => by
    have hb : Below w.heap.size w ((w.alloc (.cells #[.int .i64 0] 3)).alloc (.cells #[.bool false] 4)) := ((Below.refl _ _).alloc (Nat.le_refl _) _).alloc (by simp) _
    obtain ⟨h1, p, cpl, h2, h3⟩ := h k hk
    exact ⟨(hb.cell (p := ⟨g, _, none⟩) hgw).trans h1, p, cpl, (hb.cell (p := ⟨g, _, none⟩) hgw).trans h2, h3.below hb h3.lt⟩
  have HA := Lib.hid (address cs hne hkn hn g o cp _ hI)
  have HQ' := Lib.hid HQ
  clear h hI HQ hkn hne
  go_enter Tryz.func43, Tryz.ntmps43
  go_wp2_with (go_at_call 39; (with_reducible refine HA.out.mono ?_); rintro e w3 ⟨b, cap, rfl, hb1, hb2, hcap, hm, hb⟩; refine Hid.out ?_)
  refine Lib.hid ?_
  have e2 : ((w.alloc (.cells #[.int .i64 0] 3)).alloc (.cells #[.bool false] 4)).heap.size = w.heap.size + 2 := by simp
  rw [e2] at hb1 hb
  have hsz : w.heap.size + 2 ≤ w3.heap.size := by have := hb.size; simp at this; omega
  have hcA : w3.cell? ⟨w.heap.size, 0, none⟩ = some (.int .i64 0) := (hb.cell (p := ⟨w.heap.size, 0, none⟩) (by show w.heap.size < _; omega)).trans (by simp [go_sem])
  have hcC : w3.cell? ⟨w.heap.size + 1, 0, none⟩ = some (.bool false) := (hb.cell (p := ⟨w.heap.size + 1, 0, none⟩) (by show w.heap.size + 1 < _; omega)).trans (by simp [go_sem])
  have hfC : w3.frozen? ⟨w.heap.size + 1, 0, none⟩ = false := (hb.frozen (p := ⟨w.heap.size + 1, 0, none⟩) (by show w.heap.size + 1 < _; omega)).trans (by simp [go_sem])
  have HS : Hid (Calls Tryz.prog 33 #[.func (.func 58) #[] #[.pointer (some ⟨w.heap.size, 0, none⟩), .pointer (some ⟨w3.heap.size, 0, none⟩), .pointer (some ⟨w.heap.size + 1, 0, none⟩)]] (w3.alloc (.cells #[.slice (some ⟨b, 0, none⟩) cs.length cap] 56)) fun e w' => e = .returned (.bool true) ∧ w'.cell? ⟨w.heap.size + 1, 0, none⟩ = some (.bool ans) ∧ w'.frozen? ⟨w.heap.size + 1, 0, none⟩ = false ∧ Below (w.heap.size + 1) (w3.alloc (.cells #[.slice (some ⟨b, 0, none⟩) cs.length cap] 56)) w') := Lib.hid (by
    refine safe58 _ _ _ ans _ (by simp; omega) (fun o' => ?_)
    have hbb : Below w3.heap.size w3 ((w3.alloc (.cells #[.slice (some ⟨b, 0, none⟩) cs.length cap] 56)).alloc o') := ((Below.refl _ _).alloc (Nat.le_refl _) _).alloc (by simp) _
    refine ask58_0 cs.length cap _ _ _ b ans _ ((hbb.cell (p := ⟨w.heap.size, 0, none⟩) (by show w.heap.size < _; omega)).trans hcA) (by simp [go_sem]) ((hbb.cell (p := ⟨w.heap.size + 1, 0, none⟩) (by show w.heap.size + 1 < _; omega)).trans hcC) ((hbb.frozen (p := ⟨w.heap.size + 1, 0, none⟩) (by show w.heap.size + 1 < _; omega)).trans hfC) ?_
    exact HQ'.out b cap _ hcap (hm.below hbb hb2 (Nat.le_refl _)))
  have hbw : Below w.heap.size w w3 := (((Below.refl _ _).alloc (Nat.le_refl _) _).alloc (by simp) _).trans (hb.mono (by omega))
  have HBW := Lib.hid hbw
  clear hb hbw hcA hcC hfC hm
  go_wp2_with (go_at_call 33; (with_reducible refine HS.out.mono ?_); rintro e w5 ⟨rfl, h5, f5, hb5⟩; refine Hid.out ?_)
  refine Lib.hid ?_
  have h6 : (w5.setCell ⟨w.heap.size + 1, 0, none⟩ (.bool ans)).cell? ⟨w.heap.size + 1, 0, none⟩ = some (.bool ans) := World.cell?_setCell_same _ _ _ h5
  have hsz5 := hb5.size
  have hend : Below w.heap.size w (w5.setCell ⟨w.heap.size + 1, 0, none⟩ (.bool ans)) := ((HBW.out.alloc HBW.out.size _).trans (hb5.mono (Nat.le_succ _))).setCell (Nat.le_succ _) _
  have HEND := Lib.hid hend
  clear hb5 hend
  go_wp2
  refine bodyPost_ret (v := .bool ans) (results43 _ _ (w.heap.size + 1) ans rfl h6) rfl ⟨rfl, HEND.out⟩

set_option maxRecDepth 100000 in
set_option maxHeartbeats 4000000 in
theorem netAsk_1 (cs : List (Int × List UInt8)) (hne : cs ≠ []) (hkn : ∀ x ∈ cs, known x.1 = true ∧ x.2.length ≤ 1000) (hn : cs.length ≤ 100) (g o cp : Nat) (ans : Bool) (w : World) (h : IRow w g o cs)
    (HQ : ∀ (b cap : Nat) (wx : World), cs.length ≤ cap → MAt wx b 0 cs → Calls Tryz.prog 60 #[.slice (some ⟨b, 0, none⟩) cs.length cap] wx fun e w' => e = .returned (.bool ans) ∧ Below wx.heap.size wx w') :
    Calls Tryz.prog 43 #[.int .i64 1, .slice (some ⟨g, o, none⟩) cs.length cp] w fun e w' => e = .returned (.bool ans) ∧ Below w.heap.size w w' := by
  have hmf : ∀ (fn : Fn) (first cap : Array Value) (w : World), (Instr.makeFunc fn first cap).run Tryz.prog w = .ok (.func fn first cap) w := fun _ _ _ _ => rfl
  have hpos : 0 < cs.length := by cases cs with | nil => exact absurd rfl hne | cons a r => simp
  have hgw : g < w.heap.size := World.block_lt_of_cell? w _ (h 0 hpos).1
  have hI : IRow ((w.alloc (.cells #[.int .i64 1] 3)).alloc (.cells #[.bool false] 4)) g o cs := fun k hk => by
    have hb : Below w.heap.size w ((w.alloc (.cells #[.int .i64 1] 3)).alloc (.cells #[.bool false] 4)) := ((Below.refl _ _).alloc (Nat.le_refl _) _).alloc (by simp) _
    obtain ⟨h1, p, cpl, h2, h3⟩ := h k hk
    exact ⟨(hb.cell (p := ⟨g, _, none⟩) hgw).trans h1, p, cpl, (hb.cell (p := ⟨g, _, none⟩) hgw).trans h2, h3.below hb h3.lt⟩
  have HA := Lib.hid (address cs hne hkn hn g o cp _ hI)
  have HQ' := Lib.hid HQ
  clear h hI HQ hkn hne
  go_enter Tryz.func43, Tryz.ntmps43
  go_wp2_with (go_at_call 39; (with_reducible refine HA.out.mono ?_); rintro e w3 ⟨b, cap, rfl, hb1, hb2, hcap, hm, hb⟩; refine Hid.out ?_)
  refine Lib.hid ?_
  have e2 : ((w.alloc (.cells #[.int .i64 1] 3)).alloc (.cells #[.bool false] 4)).heap.size = w.heap.size + 2 := by simp
  rw [e2] at hb1 hb
  have hsz : w.heap.size + 2 ≤ w3.heap.size := by have := hb.size; simp at this; omega
  have hcA : w3.cell? ⟨w.heap.size, 0, none⟩ = some (.int .i64 1) := (hb.cell (p := ⟨w.heap.size, 0, none⟩) (by show w.heap.size < _; omega)).trans (by simp [go_sem])
  have hcC : w3.cell? ⟨w.heap.size + 1, 0, none⟩ = some (.bool false) := (hb.cell (p := ⟨w.heap.size + 1, 0, none⟩) (by show w.heap.size + 1 < _; omega)).trans (by simp [go_sem])
  have hfC : w3.frozen? ⟨w.heap.size + 1, 0, none⟩ = false := (hb.frozen (p := ⟨w.heap.size + 1, 0, none⟩) (by show w.heap.size + 1 < _; omega)).trans (by simp [go_sem])
  have HS : Hid (Calls Tryz.prog 33 #[.func (.func 58) #[] #[.pointer (some ⟨w.heap.size, 0, none⟩), .pointer (some ⟨w3.heap.size, 0, none⟩), .pointer (some ⟨w.heap.size + 1, 0, none⟩)]] (w3.alloc (.cells #[.slice (some ⟨b, 0, none⟩) cs.length cap] 56)) fun e w' => e = .returned (.bool true) ∧ w'.cell? ⟨w.heap.size + 1, 0, none⟩ = some (.bool ans) ∧ w'.frozen? ⟨w.heap.size + 1, 0, none⟩ = false ∧ Below (w.heap.size + 1) (w3.alloc (.cells #[.slice (some ⟨b, 0, none⟩) cs.length cap] 56)) w') := Lib.hid (by
    refine safe58 _ _ _ ans _ (by simp; omega) (fun o' => ?_)
    have hbb : Below w3.heap.size w3 ((w3.alloc (.cells #[.slice (some ⟨b, 0, none⟩) cs.length cap] 56)).alloc o') := ((Below.refl _ _).alloc (Nat.le_refl _) _).alloc (by simp) _
    refine ask58_1 cs.length cap _ _ _ b ans _ ((hbb.cell (p := ⟨w.heap.size, 0, none⟩) (by show w.heap.size < _; omega)).trans hcA) (by simp [go_sem]) ((hbb.cell (p := ⟨w.heap.size + 1, 0, none⟩) (by show w.heap.size + 1 < _; omega)).trans hcC) ((hbb.frozen (p := ⟨w.heap.size + 1, 0, none⟩) (by show w.heap.size + 1 < _; omega)).trans hfC) ?_
    exact HQ'.out b cap _ hcap (hm.below hbb hb2 (Nat.le_refl _)))
  have hbw : Below w.heap.size w w3 := (((Below.refl _ _).alloc (Nat.le_refl _) _).alloc (by simp) _).trans (hb.mono (by omega))
  have HBW := Lib.hid hbw
  clear hb hbw hcA hcC hfC hm
  go_wp2_with (go_at_call 33; (with_reducible refine HS.out.mono ?_); rintro e w5 ⟨rfl, h5, f5, hb5⟩; refine Hid.out ?_)
  refine Lib.hid ?_
  have h6 : (w5.setCell ⟨w.heap.size + 1, 0, none⟩ (.bool ans)).cell? ⟨w.heap.size + 1, 0, none⟩ = some (.bool ans) := World.cell?_setCell_same _ _ _ h5
  have hsz5 := hb5.size
  have hend : Below w.heap.size w (w5.setCell ⟨w.heap.size + 1, 0, none⟩ (.bool ans)) := ((HBW.out.alloc HBW.out.size _).trans (hb5.mono (Nat.le_succ _))).setCell (Nat.le_succ _) _
  have HEND := Lib.hid hend
  clear hb5 hend
  go_wp2
  refine bodyPost_ret (v := .bool ans) (results43 _ _ (w.heap.size + 1) ans rfl h6) rfl ⟨rfl, HEND.out⟩
end Go.Proofs.YtnpcmmjdojdmnaaGreatDoor
