/- net/url.escape (326), QueryEscape (265); http-path: BytesToString (230). -/
import Derived.Test.YtnpcmmjdojdmnaaGreatDoorSk
import Derived.Lib.LazyBuf
import Derived.BigGuard
import Derived.Great.Walk
import Derived.BigQuiet
namespace Go.Proofs.YtnpcmmjdojdmnaaGreatDoor
open Go Go.RowKit Go.Sort

/-- The table of net/url with its bytes. -/
def UrlT (w : World) (T : Nat → UInt8) : Prop := ∀ i, i < 256 → w.cell? ⟨22, i, none⟩ = some (.int .u8 (T i).toNat)
theorem UrlTab.pick {w : World} (h : UrlTab w) : ∃ T, UrlT w T := by
  refine ⟨fun i => if hi : i < 256 then (h i hi).choose else 0, fun i hi => ?_⟩
  simp only [dif_pos hi]
  exact (h i hi).choose_spec
theorem UrlT.lt {w : World} {T : Nat → UInt8} (h : UrlT w T) : 22 < w.heap.size := World.block_lt_of_cell? w _ (h 0 (by omega))
theorem UrlT.below {B : Nat} {w w' : World} {T : Nat → UInt8} (h : UrlT w T) (hb : Below B w w') (hB : 22 < B) : UrlT w' T := fun i hi => (hb.cell (p := ⟨22, i, none⟩) hB).trans (h i hi)

/-- Is a byte escaped? -/
def escB (T : Nat → UInt8) (c : UInt8) : Bool := bits .and .u8 ((T c.toNat).toNat : Int) 32 == 0

set_option maxRecDepth 100000 in
set_option maxHeartbeats 4000000 in
theorem should380 (T : Nat → UInt8) (c : UInt8) (w : World) (hT : UrlT w T) : Calls Tryz.prog 380 #[.int .u8 c.toNat, .int .u8 32] w fun e w' => e = .returned (.bool (escB T c)) ∧ w = w' := by
  have hx := c.toNat_lt
  have c0 := hT c.toNat (by omega)
  obtain ⟨b, hb⟩ : ∃ b, b = escB T c := ⟨_, rfl⟩
  have hb2 : (bits .and .u8 ((T c.toNat).toNat : Int) 32 == 0) = b := hb.symm
  rw [← hb]
  clear hb hT
  go_enter Tryz.func380, Tryz.ntmps380
  go_wp2
  go_ret
  exact ⟨rfl, rfl⟩

/-- How many of the first k bytes are written by three. -/
def cntH (T : Nat → UInt8) (f : Nat → UInt8) : Nat → Nat
  | 0 => 0
  | k + 1 => cntH T f k + (if escB T (f k) = true ∧ (f k).toNat ≠ 32 then 1 else 0)
theorem cntH_le (T f) : ∀ k, cntH T f k ≤ k
  | 0 => Nat.le_refl _
  | k + 1 => by have := cntH_le T f k; rw [cntH]; split <;> omega
theorem cntH_mono (T f) (k : Nat) : ∀ m, cntH T f k ≤ cntH T f (k + m)
  | 0 => Nat.le_refl _
  | m + 1 => by have := cntH_mono T f k m; rw [← Nat.add_assoc, cntH]; omega
theorem cntH_hit {T : Nat → UInt8} {f : Nat → UInt8} {k n : Nat} (h1 : escB T (f k) = true) (h2 : (f k).toNat ≠ 32) (hk : k < n) : cntH T f (k + 1) = cntH T f k + 1 ∧ cntH T f k + 1 ≤ cntH T f n := by
  have e : cntH T f (k + 1) = cntH T f k + 1 := by rw [cntH, if_pos ⟨h1, h2⟩]
  refine ⟨e, ?_⟩
  have := cntH_mono T f (k + 1) (n - (k + 1))
  rw [show k + 1 + (n - (k + 1)) = n by omega] at this
  omega
theorem cntH_miss {T : Nat → UInt8} {f : Nat → UInt8} {k : Nat} (h : ¬ (escB T (f k) = true ∧ (f k).toNat ≠ 32)) : cntH T f (k + 1) = cntH T f k := by rw [cntH, if_neg h]; rfl
theorem cntH_upto (T f) {k n : Nat} (hk : k ≤ n) : cntH T f k ≤ cntH T f n := by
  have := cntH_mono T f k (n - k)
  rwa [show k + (n - k) = n by omega] at this

theorem bys_setCells {g N : Nat} : ∀ (bs : List UInt8) (o : Nat) (w : World), Bys w g N → Bys (w.setCells g o (bs.map fun x => Value.int .u8 (x.toNat : Int))) g N
  | [], _, _, h => h
  | b :: r, o, _w, h => bys_setCells r (o + 1) _ (h.set o b)

theorem bys_take {w : World} {g N M : Nat} (h : Bys w g N) (hM : M ≤ N) : Bys w g M := fun j hj => h j (by omega)
theorem Bys.below {B g N : Nat} {w w' : World} (h : Bys w g N) (hb : Below B w w') (hg : g < B) : Bys w' g N := fun j hj => by
  obtain ⟨x, h1, h2⟩ := h j hj
  exact ⟨x, (hb.cell (p := ⟨g, j, none⟩) hg).trans h1, (hb.frozen (p := ⟨g, j, none⟩) hg).trans h2⟩
theorem wpList_buf (w : World) {ops : Array Oper} {rest : List Oper} {o : Oper} {a : Act} {Q : Exit → Act → World → Prop} (hg : o.guard = none) (ho : o.op = .alloc 269)
    (h : ∀ w2, Bys w2 w.heap.size 64 → Below w.heap.size w w2 → w.heap.size < w2.heap.size → wpList Tryz.prog ops Q rest (a.put o.dst (.pointer (some ⟨w.heap.size, 0, none⟩))) w2) : wpList Tryz.prog ops Q (o :: rest) a w := by
  refine Great.wpList_runTo hg _ rfl (.pointer (some ⟨w.heap.size, 0, none⟩)) (w.alloc (.cells (Array.replicate 64 (.int .u8 0)) 269)) ?_ (h _ (fun j hj => ⟨0, ?_, ?_⟩) ((Below.refl _ _).alloc (Nat.le_refl _) _) (by simp))
  · unfold execOp
    simp only [ho]
    go_simp
    rfl
  · rw [World.cell?_alloc_new, Array.getElem?_replicate, if_pos hj]
    rfl
  · simp only [World.frozen?, heap_alloc_last]
    simp
theorem bys_made {w3 : World} {B g N : Nat} (hown : w3.ownsRow B 5 1 (.slice (some ⟨g, 0, none⟩) N N) N (madeCells #[Value.int .u8 0] N).toList) : Bys w3 g N := fun j hj => by
  refine ⟨0, ?_, hown.frozenAt j⟩
  have := hown.cellAt j (by simp; omega)
  rw [this]
  simp [madeCells]
  exact ⟨j, by rw [List.getElem?_range (by omega)], by simp [Nat.mod_one]⟩
theorem copy_bys {w : World} {g N : Nat} (h : Bys w g N) {n : Nat} (hn : n ≤ N) (t : ByteArray) (dLen dCap : Nat) (hle : t.size ≤ dLen) (ht : t.size = n) :
    (Builtin.copy_ #[22, 9] 3 #[.slice (some ⟨g, 0, none⟩) dLen dCap, .string t]).run Tryz.prog w = .ok (goInt t.size) (w.setCells g 0 (t.data.toList.map fun x => Value.int .u8 (x.toNat : Int))) :=
  run_copy_string w 22 9 3 5 g 0 dLen dCap t Tryz.underlying22 (fun w => by kernel_rfl) hle (fun j hj => by
    obtain ⟨x, h1, _⟩ := h j (by omega)
    rw [Nat.zero_add, h1]; rfl) (fun j hj => by
    obtain ⟨x, _, h2⟩ := h j (by omega)
    rw [Nat.zero_add]; exact h2)

set_option maxRecDepth 100000 in
set_option maxHeartbeats 16000000 in
theorem esc326 (s : ByteArray) (hlim : s.size ≤ 1000000) (w : World) (hu : UrlTab w) :
    Calls Tryz.prog 326 #[.string s, .int .u8 32] w fun e w' => ∃ t, e = .returned (.string t) ∧ Below w.heap.size w w' := by
  obtain ⟨i0, hi, hz0, hz1, hz2⟩ := info_parts info5
  obtain ⟨T, hT⟩ := hu.pick
  have hcv := conv_string
  obtain ⟨f, hf⟩ : ∃ f : Nat → UInt8, ∀ (w : World) j, j < s.size → (Lib.bytesWorld w 5 s).cell? ⟨w.heap.size, j, none⟩ = some (.int .u8 (f j).toNat) := by
    refine ⟨fun j => s.data.toList.getD j 0, fun w j hj => ?_⟩
    have h := bytesWorld_at w s j (by rw [Array.length_toList]; exact hj)
    rw [Nat.zero_add] at h
    rw [h]
    have hj' : j < s.data.toList.length := by rw [Array.length_toList]; exact hj
    simp only [List.getD, List.getElem?_eq_getElem hj', Option.getD_some]
  have hlt := hT.lt
  have H1 := Lib.hid (And.intro hT (And.intro hf (Lib.bytesWorld_below w 5 s)))
  clear hT hf hu
  go_enter Tryz.func326, Tryz.ntmps326
  go_wp2
  obtain ⟨W, hW⟩ : ∃ W, W = Lib.bytesWorld w 5 s := ⟨_, rfl⟩
  have HW : Hid (UrlT W T ∧ (∀ j, j < s.size → W.cell? ⟨w.heap.size, j, none⟩ = some (.int .u8 (f j).toNat)) ∧ Below w.heap.size w W) := Lib.hid (by
    obtain ⟨hT, hf, hb⟩ := H1.out
    rw [hW]
    exact ⟨hT.below hb hlt, hf w, hb⟩)
  rw [← hW]
  clear hW
  generalize grownCap w s.size 0 5 = cap0
  obtain ⟨n, hn⟩ : ∃ n, n = s.size := ⟨_, rfl⟩
  have HN := Lib.hid hn
  rw [← hn] at hlim HW ⊢
  clear hn hcv
  go_loopw [5, 6, 8, 19] (fun v5 v6 _ v19 wr => ∃ k sp : Nat, v19 = .int .i64 k ∧ k ≤ n ∧ v5 = .int .i64 sp ∧ sp ≤ k ∧ v6 = .int .i64 (cntH T f k) ∧ W = wr) (fun _ _ _ v19 _ => n - (intOf v19).toNat)
  case atStart => exact ⟨0, 0, rfl, Nat.zero_le _, rfl, Nat.le_refl _, rfl, rfl⟩
  case round =>
    obtain ⟨k, sp, rfl, hk, rfl, hsp, rfl, rfl⟩ := hrel
    have hck := cntH_le T f k
    by_cases hlt : k < n
    · have c0 := HW.out.2.1 k hlt
      have H380 := Lib.hid (should380 T (f k) W HW.out.1)
      have hx := (f k).toNat_lt
      cases he : escB T (f k)
      · rw [he] at H380
        have hc := cntH_miss (T := T) (f := f) (k := k) (by rw [he]; simp)
        go_wp2_with (go_at_call 380; (with_reducible refine H380.out.mono ?_); rintro e w2 ⟨rfl, rfl⟩)
        exact ⟨⟨k + 1, sp, by go_num, by omega, rfl, by omega, by rw [hc], trivial⟩, by simp [intOf]; omega⟩
      · rw [he] at H380
        by_cases h32 : (f k).toNat = 32
        · have hc := cntH_miss (T := T) (f := f) (k := k) (by simp [h32])
          have q32 : (((f k).toNat : Int) == 32) = true := by rw [h32]; rfl
          clear h32
          go_wp2_with (go_at_call 380; (with_reducible refine H380.out.mono ?_); rintro e w2 ⟨rfl, rfl⟩)
          exact ⟨⟨k + 1, sp + 1, by go_num, by omega, by go_num, by omega, by rw [hc], trivial⟩, by simp [intOf]; omega⟩
        · have hc := (cntH_hit (n := n) he h32 hlt).1
          have q32 : (((f k).toNat : Int) == 32) = false := by rw [beq_eq_false_iff_ne]; omega
          clear h32
          go_wp2_with (go_at_call 380; (with_reducible refine H380.out.mono ?_); rintro e w2 ⟨rfl, rfl⟩)
          exact ⟨⟨k + 1, sp, by go_num, by omega, rfl, by omega, by rw [hc]; go_num, trivial⟩, by simp [intOf]; omega⟩
    · have hkn : k = n := by omega
      subst hkn
      obtain ⟨M, hM⟩ : ∃ M, M = cntH T f k := ⟨_, rfl⟩
      rw [← hM] at hck ⊢
      have HMM := Lib.hid hM
      have hsz : s.size = k := HN.out.symm
      have hgw : w.heap.size ≤ W.heap.size := HW.out.2.2.size
      have hbw := HW.out.2.2
      have hsl : ∀ (R : Nat), R ≤ 64 → ∀ W', (Instr.sliceAt 269 (.pointer (some ⟨W.heap.size, 0, none⟩)) none (some (.int .i64 (R : Int))) none).run Tryz.prog W' = .ok (.slice (some ⟨W.heap.size, 0, none⟩) R 64) W' := fun R hR W' => by
        have hal : Tryz.prog.arrayLen 269 = 64 := by simp [Program.arrayLen, Tryz.underlying269]
        rw [run_sliceAt_array_h W' 269 ⟨W.heap.size, 0, none⟩ (by simp [Program.arrayLen, Program.elem, Tryz.underlying269]) .i64 (R : Int) (by omega) (by rw [hal]; omega)]
        go_simp
      have HSL := Lib.hid hsl
      clear hM hk hlt hsl
      by_cases hM0 : M = 0
      · subst hM0
        by_cases hs0 : sp = 0
        · subst hs0
          go_wp2
          go_ret
          exact ⟨_, rfl, HW.out.2.2⟩
        · obtain ⟨vs, hvs⟩ : ∃ vs, vs = s.data.toList.map fun x => Value.int .u8 (x.toNat : Int) := ⟨_, rfl⟩
          have HVS := Lib.hid hvs
          clear hvs
          by_cases h64 : k ≤ 64
          · have hsl := HSL.out k h64
            have HCP : Hid (∀ W2, Bys W2 W.heap.size 64 → (Builtin.copy_ #[22, 9] 3 #[.slice (some ⟨W.heap.size, 0, none⟩) k 64, .string s]).run Tryz.prog W2 = .ok (goInt k) (W2.setCells W.heap.size 0 vs)) := Lib.hid fun W2 hB => by
              rw [copy_bys hB (by omega : s.size ≤ 64) s k 64 (by omega) rfl, HVS.out, hsz]
            go_wp2_with (refine wpList_buf _ rfl rfl ?_; intro W2 hB2 hbl2 hlt2; have hcp := HCP.out _ hB2)
            obtain ⟨W4, hW4⟩ : ∃ W4, W4 = W2.setCells W.heap.size 0 vs := ⟨_, rfl⟩
            have HB4 : Hid (Bys W4 W.heap.size k ∧ Below w.heap.size w W4) := Lib.hid ⟨by rw [hW4, HVS.out]; exact bys_setCells _ 0 _ (bys_take hB2 h64), by rw [hW4]; exact below_setCells (by omega) _ _ _ (hbw.trans (hbl2.mono hgw))⟩
            rw [← hW4]
            clear hW4 hcp
            go_loopw [12] (fun v12 wr => ∃ i : Nat, v12 = .int .i64 i ∧ i ≤ k ∧ Hid (Bys wr W.heap.size k) ∧ Below w.heap.size w wr) (fun v12 _ => k - (intOf v12).toNat)
            case atStart => exact ⟨0, rfl, Nat.zero_le _, Lib.hid HB4.out.1, HB4.out.2⟩
            case round =>
              obtain ⟨i, rfl, hik, hd, hbl⟩ := hrel
              by_cases hilt : i < k
              · obtain ⟨x, c0, f0⟩ := hd.out i hilt
                have hsi : i < s.size := by omega
                cases hc : ((s[i].toNat : Int) == 32)
                · go_wp2
                  exact ⟨⟨i + 1, by go_num, by omega, hd, hbl⟩, by simp [intOf]; omega⟩
                · go_wp2
                  exact ⟨⟨i + 1, by go_num, by omega, Lib.hid (hd.out.set i 43), bset W.heap.size hbl (by omega) _ _⟩, by simp [intOf]; omega⟩
              · obtain ⟨t, ht, hcv⟩ := bys_string hd.out 64
                go_wp2
                go_ret
                exact ⟨t, rfl, hbl⟩
          · go_wp2_with (first
              | (refine wpList_buf _ rfl rfl ?_; intro W2 hB2 hbl2 hlt2)
              | (at_make; refine wpList_make_full _ rfl (.tmp 53) (.tmp 53) 22 rfl w.heap.size 5 i0 (.int .u8 0) 1 Tryz.underlying22 hi hz0 hz1 .i64 .i64 _ _ k rfl rfl rfl rfl ?c1 ?c2 ?c3 ?_))
            case c1 => rw [hz2]; omega
            case c2 => unfold maxLen; omega
            case c3 => omega
            intro W3 hown hgrow
            have hB3 : Bys W3 W2.heap.size k := bys_made hown
            have hbl3 : Below W.heap.size W W3 := hbl2.grown hgrow (by omega) (fun k hk => by cases hk)
            have hcp : (Builtin.copy_ #[22, 9] 3 #[.slice (some ⟨W2.heap.size, 0, none⟩) k k, .string s]).run Tryz.prog W3 = .ok (goInt k) (W3.setCells W2.heap.size 0 vs) := by
              rw [copy_bys hB3 (by omega : s.size ≤ k) s k k (by omega) rfl, HVS.out, hsz]
            clear hown hgrow
            go_wp2
            obtain ⟨W4, hW4⟩ : ∃ W4, W4 = W3.setCells W2.heap.size 0 vs := ⟨_, rfl⟩
            have HB4 : Hid (Bys W4 W2.heap.size k ∧ Below w.heap.size w W4) := Lib.hid ⟨by rw [hW4, HVS.out]; exact bys_setCells _ 0 _ hB3, by rw [hW4]; exact below_setCells (by omega) _ _ _ (hbw.trans (hbl3.mono hgw))⟩
            rw [← hW4]
            clear hW4 hcp
            go_loopw [12] (fun v12 wr => ∃ i : Nat, v12 = .int .i64 i ∧ i ≤ k ∧ Hid (Bys wr W2.heap.size k) ∧ Below w.heap.size w wr) (fun v12 _ => k - (intOf v12).toNat)
            case atStart => exact ⟨0, rfl, Nat.zero_le _, Lib.hid HB4.out.1, HB4.out.2⟩
            case round =>
              obtain ⟨i, rfl, hik, hd, hbl⟩ := hrel
              by_cases hilt : i < k
              · obtain ⟨x, c0, f0⟩ := hd.out i hilt
                have hsi : i < s.size := by omega
                cases hc : ((s[i].toNat : Int) == 32)
                · go_wp2
                  exact ⟨⟨i + 1, by go_num, by omega, hd, hbl⟩, by simp [intOf]; omega⟩
                · go_wp2
                  exact ⟨⟨i + 1, by go_num, by omega, Lib.hid (hd.out.set i 43), bset W2.heap.size hbl (by omega) _ _⟩, by simp [intOf]; omega⟩
              · obtain ⟨t, ht, hcv⟩ := bys_string hd.out k
                go_wp2
                go_ret
                exact ⟨t, rfl, hbl⟩
      · obtain ⟨R, hR⟩ : ∃ R, R = k + 2 * M := ⟨_, rfl⟩
        have hRI : (k : Int) + 2 * (M : Int) = (R : Int) := by omega
        have HR := Lib.hid (And.intro hR hRI)
        have hR2 : R ≤ 3000000 := by omega
        have qm : ((M : Int) == 0) = false := by rw [beq_eq_false_iff_ne]; omega
        have hcv := conv_string
        have hq : ((sp : Int) == 0) = true ∨ ((sp : Int) == 0) = false := by cases ((sp : Int) == 0) <;> simp
        clear hR
        rcases hq with hq | hq
        all_goals
          by_cases h64 : R ≤ 64
          · have hsl := HSL.out R h64
            go_wp2_with (refine wpList_buf _ rfl rfl ?_; intro W2 hB2 hbl2 hlt2)
            obtain ⟨W4, hW4⟩ : ∃ W4, W4 = Lib.bytesWorld W2 5 s := ⟨_, rfl⟩
            have HB4 : Hid (Bys W4 W.heap.size R ∧ (∀ j, j < k → W4.cell? ⟨W2.heap.size, j, none⟩ = some (.int .u8 (f j).toNat)) ∧ Below w.heap.size w W4) := Lib.hid (by
              have hb := Lib.bytesWorld_below W2 5 s
              have hbx := hbw.trans (hbl2.mono hgw)
              rw [hW4]
              exact ⟨(bys_take hB2 h64).below hb hlt2, fun j hj => H1.out.2.1 W2 j (by omega), hbx.trans (hb.mono hbx.size)⟩)
            have HHG : Hid (W.heap.size < W2.heap.size ∧ w.heap.size ≤ W.heap.size) := Lib.hid ⟨hlt2, by omega⟩
            rw [← hW4]
            clear hW4 hcv
            generalize grownCap W2 _ 0 5 = cap4
            generalize W2.heap.size = g4 at *
            go_loopw [13, 78] (fun v13 v78 wr => ∃ i j : Nat, v78 = .int .i64 i ∧ i ≤ k ∧ v13 = .int .i64 j ∧ Hid (j = i + 2 * cntH T f i) ∧ Hid (Bys wr W.heap.size R ∧ (∀ j, j < k → wr.cell? ⟨g4, j, none⟩ = some (.int .u8 (f j).toNat))) ∧ Below w.heap.size w wr) (fun _ v78 _ => k - (intOf v78).toNat)
            case atStart => exact ⟨0, 0, rfl, Nat.zero_le _, rfl, Lib.hid rfl, Lib.hid ⟨HB4.out.1, HB4.out.2.1⟩, HB4.out.2.2⟩
            case round =>
              obtain ⟨i, j, rfl, hik, rfl, hj, hd, hbl⟩ := hrel
              by_cases hilt : i < k
              · have c0 := hd.out.2 i hilt
                have hx := (f i).toNat_lt
                have HT : Hid (UrlT wr T) := Lib.hid (H1.out.1.below hbl hlt)
                have H380 := Lib.hid (should380 T (f i) wr HT.out)
                have hjR : j < R ∧ (escB T (f i) = true → (f i).toNat ≠ 32 → j + 2 < R) := by
                  have h1 := hj.out; have h2 := HMM.out; have h3 := HR.out.1
                  refine ⟨by have := cntH_upto T f hik; omega, fun a b => ?_⟩
                  have := (cntH_hit (n := k) a b hilt).2
                  omega
                have hjR1 := hjR.1
                by_cases h32 : (f i).toNat = 32
                · have hc := Lib.hid (cntH_miss (T := T) (f := f) (k := i) (by simp [h32]))
                  have q32 : (((f i).toNat : Int) == 32) = true := by rw [h32]; rfl
                  obtain ⟨y, d0, f0⟩ := hd.out.1 j (by omega)
                  clear h32 hjR
                  go_wp2
                  exact ⟨⟨i + 1, j + 1, by go_num, by omega, by go_num, Lib.hid (by rw [hj.out, hc.out]; omega), Lib.hid ⟨hd.out.1.set j 43, fun z hz => (World.cell?_setCell_other _ _ _ _ (by intro e; injection e with e1 e2; have := HHG.out.1; omega)).trans (hd.out.2 z hz)⟩, bset W.heap.size hbl HHG.out.2 _ _⟩, by simp [intOf]; omega⟩
                · cases he : escB T (f i)
                  · rw [he] at H380
                    have hc := Lib.hid (cntH_miss (T := T) (f := f) (k := i) (by rw [he]; simp))
                    have q32 : (((f i).toNat : Int) == 32) = false := by rw [beq_eq_false_iff_ne]; omega
                    obtain ⟨y, d0, f0⟩ := hd.out.1 j (by omega)
                    clear h32 hjR
                    go_wp2_with (go_at_call 380; (with_reducible refine H380.out.mono ?_); rintro e w2 ⟨rfl, rfl⟩)
                    have hcell : ∀ v z, z < k → (wr.setCell ⟨W.heap.size, j, none⟩ v).cell? ⟨g4, z, none⟩ = some (.int .u8 (f z).toNat) := fun v z hz => (World.cell?_setCell_other _ _ _ _ (by intro e; injection e with e1 e2; have := HHG.out.1; omega)).trans (hd.out.2 z hz)
                    first
                      | exact ⟨⟨i + 1, j + 1, by go_num, by omega, by go_num, Lib.hid (by rw [hj.out, hc.out]; omega), Lib.hid ⟨hd.out.1.set j _, hcell _⟩, bset W.heap.size hbl HHG.out.2 _ _⟩, by simp [intOf]; omega⟩
                      | (go_simp
                         exact ⟨⟨_, _, _, ⟨i + 1, rfl, by omega, j + 1, rfl, Lib.hid (by rw [hj.out, hc.out]; omega), Lib.hid ⟨hd.out.1.set j _, hd.out.2⟩, bset W.heap.size hbl HHG.out.2 _ _⟩, by go_num, rfl, by go_num⟩, by simp [intOf]; omega⟩)
                  · rw [he] at H380
                    have hc := Lib.hid (cntH_hit (n := k) he h32 hilt).1
                    have hjR2 := hjR.2 he h32
                    have q32 : (((f i).toNat : Int) == 32) = false := by rw [beq_eq_false_iff_ne]; omega
                    obtain ⟨y0, d0, f0⟩ := hd.out.1 j (by omega)
                    obtain ⟨y1, d1, f1⟩ := hd.out.1 (j + 1) (by omega)
                    obtain ⟨y2, d2, f2⟩ := hd.out.1 (j + 2) (by omega)
                    clear h32 hjR
                    go_wp2_with (go_at_call 380; (with_reducible refine H380.out.mono ?_); rintro e w2 ⟨rfl, rfl⟩)
                    have hcell : ∀ v0 v1 v2 z, z < k → (((wr.setCell ⟨W.heap.size, j, none⟩ v0).setCell ⟨W.heap.size, j + 1, none⟩ v1).setCell ⟨W.heap.size, j + 2, none⟩ v2).cell? ⟨g4, z, none⟩ = some (.int .u8 (f z).toNat) := fun v0 v1 v2 z hz => by
                      have := HHG.out.1
                      rw [World.cell?_setCell_other _ _ _ _ (by intro e; injection e with e1 e2; omega), World.cell?_setCell_other _ _ _ _ (by intro e; injection e with e1 e2; omega), World.cell?_setCell_other _ _ _ _ (by intro e; injection e with e1 e2; omega)]
                      exact hd.out.2 z hz
                    first
                      | exact ⟨⟨i + 1, j + 3, by go_num, by omega, by go_num, Lib.hid (by rw [hj.out, hc.out]; omega), Lib.hid ⟨((hd.out.1.set j 37).set (j + 1) _).set (j + 2) _, hcell _ _ _⟩, bset W.heap.size (bset W.heap.size (bset W.heap.size hbl HHG.out.2 _ _) HHG.out.2 _ _) HHG.out.2 _ _⟩, by simp [intOf]; omega⟩
                      | (go_simp
                         exact ⟨⟨_, _, _, ⟨i + 1, rfl, by omega, j + 3, rfl, Lib.hid (by rw [hj.out, hc.out]; omega), Lib.hid ⟨((hd.out.1.set j 37).set (j + 1) _).set (j + 2) _, hd.out.2⟩, bset W.heap.size (bset W.heap.size (bset W.heap.size hbl HHG.out.2 _ _) HHG.out.2 _ _) HHG.out.2 _ _⟩, by go_num, rfl, by go_num⟩, by simp [intOf]; omega⟩)
              · obtain ⟨t, ht, hcv⟩ := bys_string hd.out.1 64
                go_wp2
                go_ret
                exact ⟨t, rfl, hbl⟩
          · go_wp2_with (first
              | (refine wpList_buf _ rfl rfl ?_; intro W2 hB2 hbl2 hlt2)
              | (at_make; refine wpList_make_full _ rfl (.tmp 53) (.tmp 53) 22 rfl w.heap.size 5 i0 (.int .u8 0) 1 Tryz.underlying22 hi hz0 hz1 .i64 .i64 _ _ R rfl rfl rfl rfl ?c1 ?c2 ?c3 ?_))
            case c1 => rw [hz2]; omega
            case c2 => unfold maxLen; omega
            case c3 => omega
            intro W3 hown hgrow
            have hB3 : Bys W3 W2.heap.size R := bys_made hown
            have hlt3 : W2.heap.size < W3.heap.size := (hown.lt W2.heap.size rfl).2
            have hbl3 : Below W.heap.size W W3 := hbl2.grown hgrow (by omega) (fun k hk => by cases hk)
            clear hown hgrow
            go_wp2
            obtain ⟨W4, hW4⟩ : ∃ W4, W4 = Lib.bytesWorld W3 5 s := ⟨_, rfl⟩
            have HB4 : Hid (Bys W4 W2.heap.size R ∧ (∀ j, j < k → W4.cell? ⟨W3.heap.size, j, none⟩ = some (.int .u8 (f j).toNat)) ∧ Below w.heap.size w W4) := Lib.hid (by
              have hb := Lib.bytesWorld_below W3 5 s
              have hbx := hbw.trans (hbl3.mono hgw)
              rw [hW4]
              exact ⟨hB3.below hb hlt3, fun j hj => H1.out.2.1 W3 j (by omega), hbx.trans (hb.mono hbx.size)⟩)
            have HHG : Hid (W2.heap.size < W3.heap.size ∧ w.heap.size ≤ W2.heap.size) := Lib.hid ⟨hlt3, by omega⟩
            rw [← hW4]
            clear hW4 hcv
            generalize grownCap W3 _ 0 5 = cap4
            generalize W3.heap.size = g4 at *
            go_loopw [13, 78] (fun v13 v78 wr => ∃ i j : Nat, v78 = .int .i64 i ∧ i ≤ k ∧ v13 = .int .i64 j ∧ Hid (j = i + 2 * cntH T f i) ∧ Hid (Bys wr W2.heap.size R ∧ (∀ j, j < k → wr.cell? ⟨g4, j, none⟩ = some (.int .u8 (f j).toNat))) ∧ Below w.heap.size w wr) (fun _ v78 _ => k - (intOf v78).toNat)
            case atStart => exact ⟨0, 0, rfl, Nat.zero_le _, rfl, Lib.hid rfl, Lib.hid ⟨HB4.out.1, HB4.out.2.1⟩, HB4.out.2.2⟩
            case round =>
              obtain ⟨i, j, rfl, hik, rfl, hj, hd, hbl⟩ := hrel
              by_cases hilt : i < k
              · have c0 := hd.out.2 i hilt
                have hx := (f i).toNat_lt
                have HT : Hid (UrlT wr T) := Lib.hid (H1.out.1.below hbl hlt)
                have H380 := Lib.hid (should380 T (f i) wr HT.out)
                have hjR : j < R ∧ (escB T (f i) = true → (f i).toNat ≠ 32 → j + 2 < R) := by
                  have h1 := hj.out; have h2 := HMM.out; have h3 := HR.out.1
                  refine ⟨by have := cntH_upto T f hik; omega, fun a b => ?_⟩
                  have := (cntH_hit (n := k) a b hilt).2
                  omega
                have hjR1 := hjR.1
                by_cases h32 : (f i).toNat = 32
                · have hc := Lib.hid (cntH_miss (T := T) (f := f) (k := i) (by simp [h32]))
                  have q32 : (((f i).toNat : Int) == 32) = true := by rw [h32]; rfl
                  obtain ⟨y, d0, f0⟩ := hd.out.1 j (by omega)
                  clear h32 hjR
                  go_wp2
                  exact ⟨⟨i + 1, j + 1, by go_num, by omega, by go_num, Lib.hid (by rw [hj.out, hc.out]; omega), Lib.hid ⟨hd.out.1.set j 43, fun z hz => (World.cell?_setCell_other _ _ _ _ (by intro e; injection e with e1 e2; have := HHG.out.1; omega)).trans (hd.out.2 z hz)⟩, bset W2.heap.size hbl HHG.out.2 _ _⟩, by simp [intOf]; omega⟩
                · cases he : escB T (f i)
                  · rw [he] at H380
                    have hc := Lib.hid (cntH_miss (T := T) (f := f) (k := i) (by rw [he]; simp))
                    have q32 : (((f i).toNat : Int) == 32) = false := by rw [beq_eq_false_iff_ne]; omega
                    obtain ⟨y, d0, f0⟩ := hd.out.1 j (by omega)
                    clear h32 hjR
                    go_wp2_with (go_at_call 380; (with_reducible refine H380.out.mono ?_); rintro e w2 ⟨rfl, rfl⟩)
                    have hcell : ∀ v z, z < k → (wr.setCell ⟨W2.heap.size, j, none⟩ v).cell? ⟨g4, z, none⟩ = some (.int .u8 (f z).toNat) := fun v z hz => (World.cell?_setCell_other _ _ _ _ (by intro e; injection e with e1 e2; have := HHG.out.1; omega)).trans (hd.out.2 z hz)
                    first
                      | exact ⟨⟨i + 1, j + 1, by go_num, by omega, by go_num, Lib.hid (by rw [hj.out, hc.out]; omega), Lib.hid ⟨hd.out.1.set j _, hcell _⟩, bset W2.heap.size hbl HHG.out.2 _ _⟩, by simp [intOf]; omega⟩
                      | (go_simp
                         exact ⟨⟨_, _, _, ⟨i + 1, rfl, by omega, j + 1, rfl, Lib.hid (by rw [hj.out, hc.out]; omega), Lib.hid ⟨hd.out.1.set j _, hd.out.2⟩, bset W2.heap.size hbl HHG.out.2 _ _⟩, by go_num, rfl, by go_num⟩, by simp [intOf]; omega⟩)
                  · rw [he] at H380
                    have hc := Lib.hid (cntH_hit (n := k) he h32 hilt).1
                    have hjR2 := hjR.2 he h32
                    have q32 : (((f i).toNat : Int) == 32) = false := by rw [beq_eq_false_iff_ne]; omega
                    obtain ⟨y0, d0, f0⟩ := hd.out.1 j (by omega)
                    obtain ⟨y1, d1, f1⟩ := hd.out.1 (j + 1) (by omega)
                    obtain ⟨y2, d2, f2⟩ := hd.out.1 (j + 2) (by omega)
                    clear h32 hjR
                    go_wp2_with (go_at_call 380; (with_reducible refine H380.out.mono ?_); rintro e w2 ⟨rfl, rfl⟩)
                    have hcell : ∀ v0 v1 v2 z, z < k → (((wr.setCell ⟨W2.heap.size, j, none⟩ v0).setCell ⟨W2.heap.size, j + 1, none⟩ v1).setCell ⟨W2.heap.size, j + 2, none⟩ v2).cell? ⟨g4, z, none⟩ = some (.int .u8 (f z).toNat) := fun v0 v1 v2 z hz => by
                      have := HHG.out.1
                      rw [World.cell?_setCell_other _ _ _ _ (by intro e; injection e with e1 e2; omega), World.cell?_setCell_other _ _ _ _ (by intro e; injection e with e1 e2; omega), World.cell?_setCell_other _ _ _ _ (by intro e; injection e with e1 e2; omega)]
                      exact hd.out.2 z hz
                    first
                      | exact ⟨⟨i + 1, j + 3, by go_num, by omega, by go_num, Lib.hid (by rw [hj.out, hc.out]; omega), Lib.hid ⟨((hd.out.1.set j 37).set (j + 1) _).set (j + 2) _, hcell _ _ _⟩, bset W2.heap.size (bset W2.heap.size (bset W2.heap.size hbl HHG.out.2 _ _) HHG.out.2 _ _) HHG.out.2 _ _⟩, by simp [intOf]; omega⟩
                      | (go_simp
                         exact ⟨⟨_, _, _, ⟨i + 1, rfl, by omega, j + 3, rfl, Lib.hid (by rw [hj.out, hc.out]; omega), Lib.hid ⟨((hd.out.1.set j 37).set (j + 1) _).set (j + 2) _, hd.out.2⟩, bset W2.heap.size (bset W2.heap.size (bset W2.heap.size hbl HHG.out.2 _ _) HHG.out.2 _ _) HHG.out.2 _ _⟩, by go_num, rfl, by go_num⟩, by simp [intOf]; omega⟩)
              · obtain ⟨t, ht, hcv⟩ := bys_string hd.out.1 R
                go_wp2
                go_ret
                exact ⟨t, rfl, hbl⟩

set_option maxRecDepth 100000 in
set_option maxHeartbeats 4000000 in
theorem qesc265 (s : ByteArray) (hlim : s.size ≤ 1000000) (w : World) (hu : UrlTab w) :
    Calls Tryz.prog 265 #[.string s] w fun e w' => ∃ t, e = .returned (.string t) ∧ Below w.heap.size w w' := by
  have H := Lib.hid (esc326 s hlim w hu)
  go_enter Tryz.func265, Tryz.ntmps265
  go_wp2_with (go_at_call 326; (with_reducible refine H.out.mono ?_); rintro e w2 ⟨t, rfl, hb⟩)
  go_ret
  exact ⟨t, rfl, hb⟩

set_option maxRecDepth 100000 in
set_option maxHeartbeats 4000000 in
theorem bts230Y (l : List UInt8) (hl : 1 ≤ l.length) (hlim : l.length ≤ 1000000) : BtsY 230 l := by
  intro w g o cp hcp he hc
  have hcv := convert_bytes (At.bytes (l := l) hc) cp
  have H := Lib.hid (qesc265 ⟨l.toArray⟩ (by show l.toArray.size ≤ _; simpa using hlim) w he.url)
  have e1 : ((l.length : Int) == 0) = false := by rw [beq_eq_false_iff_ne]; omega
  clear hc he
  go_enter Tryz.func230, Tryz.ntmps230
  go_wp2_with (go_at_call 265; (with_reducible refine H.out.mono ?_); rintro e w2 ⟨t, rfl, hb⟩)
  go_ret2
  exact ⟨t, rfl, hb⟩
end Go.Proofs.YtnpcmmjdojdmnaaGreatDoor
